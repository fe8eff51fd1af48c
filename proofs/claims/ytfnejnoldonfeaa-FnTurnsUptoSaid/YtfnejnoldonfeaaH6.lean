/-
  The three hashers together: new ones, the sums of each.
  Conditions: the digests lie in memory as 'St32', 'St128' say.
-/
import Derived.Test.YtfnejnoldonfeaaH5
import Derived.BigQuiet
import Derived.LoopN
namespace Go.Proofs.Ytfnejnoldonfeaa
open Go.RowKit BigFrame

theorem St128.lt {g : Nat} {seed : BitVec 32} {l : List UInt8} {w : World} (s : St128 g seed l w) : g < w.heap.size := by
  obtain ⟨A, tc, buf, d, _⟩ := s; exact d.lt
theorem St32.lt {g : Nat} {seed : BitVec 32} {l : List UInt8} {w : World} (s : St32 g seed l w) : g < w.heap.size := by
  obtain ⟨A, tc, buf, d, _⟩ := s; exact d.lt
theorem dsumSt128 (g : Nat) (seed : BitVec 32) (l : List UInt8) (w : World) (s : St128 g seed l w) : Calls Try.prog 71 #[.pointer (some ⟨g, 0, none⟩)] w fun e w' =>
    e = .returned (.tuple #[.int .u64 (un (sum128 l seed).1), .int .u64 (un (sum128 l seed).2)]) ∧ ∃ n, w' = w.drewN n := by
  obtain ⟨A, tc, buf, d, h⟩ := s
  have hb : Bs w A (l.drop (16 * (l.length / 16))) := by
    rcases h with ⟨rfl, rfl⟩ | ⟨rfl, _, h⟩
    · exact .inl rfl
    · exact h ▸ Bs.own d _
  exact dsum128_any g l.length A (l.drop (16 * (l.length / 16))) _ tc _ _ w d.c0 d.c1 d.c20 d.c21 hb (by simp) (by omega)
theorem dsumSt32 (g : Nat) (seed : BitVec 32) (l : List UInt8) (w : World) (s : St32 g seed l w) : Calls Try.prog 102 #[.pointer (some ⟨g, 0, none⟩)] w fun e w' =>
    e = .returned (.int .u32 (un (sum32 l seed))) ∧ ∃ n, w' = w.drewN n := by
  obtain ⟨A, tc, buf, d, h⟩ := s
  have hb : Bs w A (l.drop (4 * (l.length / 4))) := by
    rcases h with ⟨rfl, rfl⟩ | ⟨rfl, _, h⟩
    · exact .inl rfl
    · exact h ▸ Bs.own d _
  exact dsum32_any g l.length _ _ seed _ A (l.drop (4 * (l.length / 4))) _ tc w d hb (by simp) (by omega)
theorem dsumSt64 (g : Nat) (seed : BitVec 32) (l : List UInt8) (w : World) (s : St128 g seed l w) : Calls Try.prog 106 #[.pointer (some ⟨g, 0, none⟩)] w fun e w' =>
    e = .returned (.int .u64 (un (sum128 l seed).1)) ∧ ∃ n, w' = w.drewN n := by
  have S := Lib.hid s
  clear s
  go_enter Try.func106, Try.ntmps106
  go_wp2_with fail
  refine (dsumSt128 g seed l _ S.out).mono ?_
  rintro e w1 ⟨rfl, n, rfl⟩
  go_wp2_with fail
  go_ret
  exact ⟨rfl, n, rfl⟩
theorem St128.new {g : Nat} {seed : BitVec 32} {w : World} (d : Dig w g 110 0 (.slice none 0 0) zeros seed (.iface 103 (.pointer (some ⟨g, 0, none⟩))) [.int .u64 (un (seed.setWidth 64)), .int .u64 (un (seed.setWidth 64))]) : St128 g seed [] w :=
  ⟨none, 0, zeros, d, .inl ⟨rfl, rfl⟩⟩
theorem St32.new {g : Nat} {seed : BitVec 32} {w : World} (d : Dig w g 116 0 (.slice none 0 0) zeros seed (.iface 114 (.pointer (some ⟨g, 0, none⟩))) [.int .u32 (un seed)]) : St32 g seed [] w :=
  ⟨none, 0, zeros, d, .inl ⟨rfl, rfl⟩⟩

/-- The three, in blocks g, g + 1, g + 2. -/
structure Sums (g : Nat) (seed : BitVec 32) (l : List UInt8) (w : World) : Prop where
  s32 : St32 g seed l w
  s64 : St128 (g + 1) seed l w
  s128 : St128 (g + 2) seed l w
theorem Sums.stay {g : Nat} {seed : BitVec 32} {l : List UInt8} {w w' : World} (s : Sums g seed l w) (h : ∀ k, g ≤ k → k ≤ g + 2 → w'.heap[k]? = w.heap[k]?) : Sums g seed l w' :=
  ⟨s.s32.keep (h _ (by omega) (by omega)), s.s64.keep (h _ (by omega) (by omega)), s.s128.keep (h _ (by omega) (by omega))⟩
theorem Sums.setCell {g : Nat} {seed : BitVec 32} {l : List UInt8} {w : World} (s : Sums g seed l w) (b i : Nat) (v : Value) (hb : b < g ∨ g + 2 < b) : Sums g seed l (w.setCell ⟨b, i, none⟩ v) :=
  s.stay fun k h1 h2 => Below.heap_setCell _ _ _ _ (by show k ≠ b; omega)
theorem Sums.keep {g : Nat} {seed : BitVec 32} {l : List UInt8} {w w' : World} (s : Sums g seed l w) (h : ∀ k, k < w.heap.size → w'.heap[k]? = w.heap[k]?) : Sums g seed l w' :=
  ⟨s.s32.keep (h _ s.s32.lt), s.s64.keep (h _ s.s64.lt), s.s128.keep (h _ s.s128.lt)⟩
theorem Sums.below {g : Nat} {seed : BitVec 32} {l : List UInt8} {w w' : World} (s : Sums g seed l w) (h : Below w.heap.size w w') : Sums g seed l w' := s.keep h.block
theorem Sums.drewN {g : Nat} {seed : BitVec 32} {l : List UInt8} {w : World} (s : Sums g seed l w) (n : Nat) : Sums g seed l (w.drewN n) := s.keep fun _ _ => rfl
def i32 (g : Nat) : Value := .iface 114 (.pointer (some ⟨g, 0, none⟩))
def i64 (g : Nat) : Value := .iface 117 (.pointer (some ⟨g, 0, none⟩))
def i128 (g : Nat) : Value := .iface 103 (.pointer (some ⟨g, 0, none⟩))
def sumsV (g : Nat) : Value := .agg #[.iface 114 (.pointer (some ⟨g, 0, none⟩)), .iface 117 (.pointer (some ⟨g + 1, 0, none⟩)), .iface 103 (.pointer (some ⟨g + 2, 0, none⟩))]

theorem seeded_any (seed : BitVec 32) (w : World) : Calls Try.prog 58 #[.int .u32 (un seed)] w fun e w' => e = .returned (sumsV (w.heap.size + 1)) ∧ Sums (w.heap.size + 1) seed [] w' ∧ Below w.heap.size w w' ∧ w'.heap.size = w.heap.size + 4 := by
  go_enter Try.func58, Try.ntmps58
  go_wp2_with fail
  refine (new32_any seed _).mono ?_
  rintro e w1 ⟨rfl, d1, b1, z1⟩
  go_wp2_with fail
  refine (new64_any seed _).mono ?_
  rintro e w2 ⟨rfl, d2, b2, z2⟩
  go_wp2_with fail
  refine (new128_any seed _).mono ?_
  rintro e w3 ⟨rfl, d3, b3, z3⟩
  have za : (w.alloc (.cells #[.nilIface, .nilIface, .nilIface] 78)).heap.size = w.heap.size + 1 := by simp
  have hg3 : w3.heap[w.heap.size]? = some (.cells #[.nilIface, .nilIface, .nilIface] 78 (0, 0)) := by
    rw [b3.block w.heap.size (by omega), b2.block w.heap.size (by omega), b1.block w.heap.size (by omega)]; exact heap_alloc_new w _
  have e1 : w1.heap.size = w.heap.size + 2 := by omega
  have e2 : w2.heap.size = w.heap.size + 3 := by omega
  have e3 : w3.heap.size = w.heap.size + 4 := by omega
  rw [e2] at d3
  rw [e1] at d2
  rw [za] at d1
  have S : Sums (w.heap.size + 1) seed [] w3 := ⟨(St32.new d1).keep (by rw [b3.block _ (by omega), b2.block _ (by omega)]), (St128.new d2).keep (by rw [b3.block _ (by omega)]), St128.new d3⟩
  have hbw : Below w.heap.size w w3 := (((Below.refl w.heap.size w).alloc (Nat.le_refl _) _).trans (b1.mono (by omega))).trans ((b2.mono (by omega)).trans (b3.mono (by omega)))
  have c0 : w3.cell? ⟨w.heap.size, 0, none⟩ = some .nilIface := cell_of_row w3 _ 0 _ 78 (0, 0) hg3
  have c1 : w3.cell? ⟨w.heap.size, 1, none⟩ = some .nilIface := cell_of_row w3 _ 1 _ 78 (0, 0) hg3
  have c2 : w3.cell? ⟨w.heap.size, 2, none⟩ = some .nilIface := cell_of_row w3 _ 2 _ 78 (0, 0) hg3
  have f0 := frozen_row w3 _ 0 _ 78 hg3
  have f1 := frozen_row w3 _ 1 _ 78 hg3
  have f2 := frozen_row w3 _ 2 _ 78 hg3
  clear hg3 d1 d2 d3 b1 b2 b3 z1 z2 z3 za
  go_wp2_with fail
  refine bodyPost_ret (v := sumsV (w.heap.size + 1)) (by simp [results, Try.results58, go_sem, c0, c1, c2, sumsV]) rfl ⟨rfl, ((S.setCell _ 0 _ (by omega)).setCell _ 1 _ (by omega)).setCell _ 2 _ (by omega), ((hbw.setCell (Nat.le_refl _) _).setCell (Nat.le_refl _) _).setCell (Nat.le_refl _) _, by simp [World.setCell, e3]⟩
/-- Only n blocks from g on have turned; others may be new. -/
structure Turn (g n : Nat) (w w' : World) : Prop where
  os : w'.os = w.os
  tape : w'.tape = w.tape
  output : w'.output = w.output
  size : w.heap.size ≤ w'.heap.size
  block : ∀ k, k < w.heap.size → (k < g ∨ g + n ≤ k) → w'.heap[k]? = w.heap[k]?
theorem Turn.refl (g n : Nat) (w : World) : Turn g n w w := ⟨rfl, rfl, rfl, Nat.le_refl _, fun _ _ _ => rfl⟩
theorem Turn.trans {g n : Nat} {a b c : World} (h : Turn g n a b) (k : Turn g n b c) : Turn g n a c :=
  ⟨k.os.trans h.os, k.tape.trans h.tape, k.output.trans h.output, Nat.le_trans h.size k.size, fun i hi hg => (k.block i (Nat.lt_of_lt_of_le hi h.size) hg).trans (h.block i hi hg)⟩
theorem Turn.of_below {g n : Nat} {w w' : World} (h : Below w.heap.size w w') : Turn g n w w' := ⟨h.os, h.tape, h.output, h.size, fun k hk _ => h.block k hk⟩
theorem Turn.of_only {g n i : Nat} {w w' : World} (h : Only i w w') (h1 : g ≤ i) (h2 : i < g + n) : Turn g n w w' :=
  ⟨h.os, h.tape, h.output, Nat.le_of_eq h.size.symm, fun k _ hk => h.block k (by omega)⟩
theorem Turn.below {g n B : Nat} {w w' : World} (h : Turn g n w w') (hB : B ≤ g) (hs : B ≤ w.heap.size) : Below B w w' :=
  ⟨h.os, h.tape, h.output, h.size, fun k hk => h.block k (by omega) (.inl (by omega))⟩
/-- The bytes lie in memory, and below block g. -/
def Low (g : Nat) (w : World) (a : Option Addr) (l : List UInt8) : Prop := l = [] ∨ ∃ b off, a = some ⟨b, off, none⟩ ∧ b < g ∧ ∀ i, i < l.length → w.cell? ⟨b, off + i, none⟩ = some (.int .u8 ((l.getD i 0).toNat : Int))
theorem Low.of {w : World} {a : Option Addr} {l : List UInt8} (h : Bs w a l) : Low w.heap.size w a l := by
  rcases h with rfl | ⟨b, off, rfl, h⟩
  · exact .inl rfl
  · rcases l with _ | ⟨x, l⟩
    · exact .inl rfl
    · exact .inr ⟨b, off, rfl, cell_in (h 0 (by simp)), h⟩
theorem Low.mono {g g' : Nat} {w : World} {a : Option Addr} {l : List UInt8} (h : Low g w a l) (hg : g ≤ g') : Low g' w a l := by
  rcases h with h | ⟨b, off, h1, h2, h3⟩
  · exact .inl h
  · exact .inr ⟨b, off, h1, by omega, h3⟩
theorem Low.below {g B : Nat} {w w' : World} {a : Option Addr} {l : List UInt8} (h : Low g w a l) (hb : Below B w w') (hg : g ≤ B) : Low g w' a l := by
  rcases h with h | ⟨b, off, h1, h2, h3⟩
  · exact .inl h
  · exact .inr ⟨b, off, h1, h2, fun i hi => by rw [World.cell?_of_block (w := w) (hb.block b (by omega))]; exact h3 i hi⟩
theorem Low.far {g i : Nat} {w : World} {a : Option Addr} {l : List UInt8} (h : Low g w a l) (hi : g ≤ i) : Far i w a l := by
  rcases h with h | ⟨b, off, h1, h2, h3⟩
  · exact .inl h
  · exact .inr ⟨b, off, h1, by omega, h3⟩
theorem Low.bs {g : Nat} {w : World} {a : Option Addr} {l : List UInt8} (h : Low g w a l) : Bs w a l := by
  rcases h with h | ⟨b, off, h1, _, h3⟩
  · exact .inl h
  · exact .inr ⟨b, off, h1, h3⟩
end Go.Proofs.Ytfnejnoldonfeaa
