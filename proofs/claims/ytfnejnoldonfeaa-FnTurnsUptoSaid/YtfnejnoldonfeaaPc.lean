/-
  impl.Pieces.
  Conditions: the slices' array and the bytes of each lie in memory.
-/
import Derived.Test.YtfnejnoldonfeaaH8
namespace Go.Proofs.Ytfnejnoldonfeaa
open Go.RowKit BigFrame

/-- One slice of bytes. -/
structure Sl where
  a : Option Addr
  len : Nat
  cap : Nat
  l : List UInt8
def Sl.v (s : Sl) : Value := .slice s.a s.len s.cap
/-- It lies in memory. -/
structure Sl.Ok (s : Sl) (w : World) : Prop where
  bs : Bs w s.a s.l
  hl : s.l.length = s.len
  hc : s.len ≤ s.cap
  hm : s.cap ≤ 9223372036854775807
/-- A slice of slices. -/
def Ls (w : World) (P : Option Addr) (L : List Sl) : Prop := (L = [] ∨ ∃ b off, P = some ⟨b, off, none⟩ ∧ ∀ i (h : i < L.length), w.cell? ⟨b, off + i, none⟩ = some (L[i]).v) ∧ ∀ s ∈ L, s.Ok w
theorem Sl.Ok.mem {s : Sl} {w w' : World} (h : s.Ok w) (hb : Below w.heap.size w w') : s.Ok w' := ⟨h.bs.mem hb, h.hl, h.hc, h.hm⟩
/-- The first k of them, joined. -/
def pre (L : List Sl) (k : Nat) : List UInt8 := ((L.take k).map Sl.l).flatten
theorem pre_succ (L : List Sl) (k : Nat) (h : k < L.length) : pre L (k + 1) = pre L k ++ (L[k]).l := by
  unfold pre; rw [List.take_succ_eq_append_getElem h]; simp only [List.map_append, List.flatten_append, List.map_cons, List.map_nil, List.flatten_cons, List.flatten_nil, List.append_nil]
def tv (l : List UInt8) (seed : BitVec 32) : Value := sums4 (sum32 l seed) (sum128 l seed).1 (sum128 l seed).1 (sum128 l seed).2
def tc4 (l : List UInt8) (seed : BitVec 32) : List Value := [.int .u32 (un (sum32 l seed)), .int .u64 (un (sum128 l seed).1), .int .u64 (un (sum128 l seed).1), .int .u64 (un (sum128 l seed).2)]
/-- The cells of what is told of the first 0, 1, .. k - 1 slices. -/
def tcs (L : List Sl) (seed : BitVec 32) (k : Nat) : List Value := ((List.range k).map fun j => tc4 (pre L j) seed).flatten

theorem tcs_succ (L : List Sl) (seed : BitVec 32) (k : Nat) : tcs L seed (k + 1) = tcs L seed k ++ tc4 (pre L k) seed := by
  unfold tcs; rw [List.range_succ, List.map_append, List.flatten_append]; simp only [List.map_cons, List.map_nil, List.flatten_cons, List.flatten_nil, List.append_nil]
theorem pre_le (L : List Sl) (k j : Nat) : (pre L k).length ≤ (pre L (k + j)).length := by
  induction j with
  | zero => exact Nat.le_refl _
  | succ j ih =>
    by_cases h : k + j < L.length
    · rw [← Nat.add_assoc, pre_succ L _ h, List.length_append]; omega
    · have : pre L (k + (j + 1)) = pre L (k + j) := by unfold pre; rw [List.take_of_length_le (by omega), List.take_of_length_le (by omega)]
      rw [this]; exact ih
theorem owns_block {w w' : World} {base : Nat} {e : TypeId} {size : Nat} {v : Value} {n : Nat} {xs : List Value} (h : w.ownsRow base e size v n xs) (hb : ∀ k, v.ownBlock = some k → w'.heap[k]? = w.heap[k]?) : w'.ownsRow base e size v n xs := by
  refine ⟨h.1, ?_⟩
  rcases h.2 with e | ⟨g, c, cur, e, h0, hg, r⟩
  · exact .inl e
  · exact .inr ⟨g, c, cur, e, h0, by rw [hb g (by rw [e]; rfl)]; exact hg, r⟩
theorem cells_new (w : World) (l : List Value) (E : TypeId) : ∀ j u, l[j]? = some u → (w.alloc (.cells l.toArray E)).cell? ((⟨w.heap.size, 0, none⟩ : Addr).add j) = some u := fun j u h => by
  rw [Addr.add_mk, cell_of_row _ w.heap.size (0 + j) _ E (0, 0) (heap_alloc_new w _), Nat.zero_add, List.getElem?_toArray]; exact h
theorem info38 : (Try.prog.info? 38).map (fun i => (i.zero, i.size, i.bytes)) = some (some (.agg #[.int .u32 0, .int .u64 0, .int .u64 0, .int .u64 0]), 4, 32) := by kernel_rfl
set_option maxRecDepth 100000 in
set_option maxHeartbeats 1600000 in
theorem pieces_any (seed : BitVec 32) (P : Option Addr) (n c : Nat) (L : List Sl) (w : World) (hL : Ls w P L) (hn : L.length = n) (hnn : n ≤ 1048576) (htot : (pre L n).length ≤ 9223372036854775807) :
   Calls Try.prog 31 #[.int .u32 (un seed), .slice P n c] w fun e w' => ∃ A C, e = .returned (.tuple #[.slice A (n + 1) C, .bool true]) ∧ w'.ownsRow w.heap.size 38 4 (.slice A (n + 1) C) (n + 1) (tcs L seed (n + 1)) ∧ Below w.heap.size w w' := by
  obtain ⟨i0, hi, hz0, hz1, hz2⟩ := info_parts info38
  have HL := Lib.hid hL
  have Hn := Lib.hid hn
  clear hL hn
  go_enter Try.func31, Try.ntmps31
  go_wp2_with fail
  refine (seeded_any seed _).mono ?_
  rintro e w1 ⟨rfl, s1, b1, z1⟩
  unfold sumsV
  go_wp2_with fail
  have zC : (w1.alloc (.cells #[.iface 114 (.pointer (some ⟨w.heap.size + 1, 0, none⟩)), .iface 117 (.pointer (some ⟨w.heap.size + 1 + 1, 0, none⟩)), .iface 103 (.pointer (some ⟨w.heap.size + 1 + 2, 0, none⟩))] 78)).heap.size = w1.heap.size + 1 := by simp
  have bC : Below w1.heap.size w1 (w1.alloc (.cells #[.iface 114 (.pointer (some ⟨w.heap.size + 1, 0, none⟩)), .iface 117 (.pointer (some ⟨w.heap.size + 1 + 1, 0, none⟩)), .iface 103 (.pointer (some ⟨w.heap.size + 1 + 2, 0, none⟩))] 78)) := (Below.refl _ _).alloc (Nat.le_refl _) _
  have gC := heap_alloc_new w1 (.cells #[.iface 114 (.pointer (some ⟨w.heap.size + 1, 0, none⟩)), .iface 117 (.pointer (some ⟨w.heap.size + 1 + 1, 0, none⟩)), .iface 103 (.pointer (some ⟨w.heap.size + 1 + 2, 0, none⟩))] 78)
  rw [z1] at gC
  generalize w1.alloc (.cells #[.iface 114 (.pointer (some ⟨w.heap.size + 1, 0, none⟩)), .iface 117 (.pointer (some ⟨w.heap.size + 1 + 1, 0, none⟩)), .iface 103 (.pointer (some ⟨w.heap.size + 1 + 2, 0, none⟩))] 78) = W at zC bC gC ⊢
  have S1 := s1.below bC
  have b0W : Below w.heap.size w W := b1.trans (bC.mono (by omega))
  refine (tolds_any (w.heap.size + 1) seed [] W S1).mono ?_
  rintro e w2 ⟨rfl, b2⟩
  have S2 := S1.below b2
  have b02 := b0W.trans (b2.mono b0W.size)
  have g2 := (b2.block (w.heap.size + 4) (by omega)).trans gC
  have z2 : w.heap.size + 5 ≤ w2.heap.size := by have := b2.size; omega
  clear S1 s1 b0W b1 bC gC zC z1 b2
  unfold sums4
  go_wp2_with fail
  have o3 := World.ownsRow_lit (base := w.heap.size + 5) (e := 38) (size := 4) w2 #[.int .u32 (un (sum32 [] seed)), .int .u64 (un (sum128 [] seed).1), .int .u64 (un (sum128 [] seed).1), .int .u64 (un (sum128 [] seed).2)] 1 z2 (by decide) rfl
  have b23 : Below w2.heap.size w2 (w2.alloc (.cells #[.int .u32 (un (sum32 [] seed)), .int .u64 (un (sum128 [] seed).1), .int .u64 (un (sum128 [] seed).1), .int .u64 (un (sum128 [] seed).2)] 38)) := (Below.refl _ _).alloc (Nat.le_refl _) _
  have z3 : (w2.alloc (.cells #[.int .u32 (un (sum32 [] seed)), .int .u64 (un (sum128 [] seed).1), .int .u64 (un (sum128 [] seed).1), .int .u64 (un (sum128 [] seed).2)] 38)).heap.size = w2.heap.size + 1 := by simp
  generalize w2.alloc (.cells #[.int .u32 (un (sum32 [] seed)), .int .u64 (un (sum128 [] seed).1), .int .u64 (un (sum128 [] seed).1), .int .u64 (un (sum128 [] seed).2)] 38) = w3 at o3 b23 z3 ⊢
  have S3 := S2.below b23
  have b03 := b02.trans (b23.mono b02.size)
  have g3 := (b23.block (w.heap.size + 4) (by omega)).trans g2
  have z4 : w.heap.size + 5 ≤ w3.heap.size := by omega
  clear S2 b02 b23 g2 z3
  go_loopw [7, 17] (fun t i wr => ∃ (k : Nat), k ≤ n ∧ i = .int .i64 k ∧ wr.ownsRow (w.heap.size + 5) 38 4 t (k + 1) (tcs L seed (k + 1)) ∧ Sums (w.heap.size + 1) seed (pre L k) wr ∧ wr.heap[w.heap.size + 4]? = w3.heap[w.heap.size + 4]? ∧ Below w.heap.size w wr ∧ w.heap.size + 5 ≤ wr.heap.size) (fun _ i _ => n - (intOf i).toNat)
  case atStart => exact ⟨0, Nat.zero_le _, rfl, o3, S3, rfl, b03, z4⟩
  case round =>
    obtain ⟨k, hk, rfl, hown, hS, hbox, hbel, hz⟩ := hrel
    have cells : ∀ w' : World, w'.heap[w.heap.size + 4]? = w3.heap[w.heap.size + 4]? → w'.cell? ⟨w.heap.size + 4, 0, none⟩ = some (.iface 114 (.pointer (some ⟨w.heap.size + 1, 0, none⟩))) ∧
        w'.cell? ⟨w.heap.size + 4, 1, none⟩ = some (.iface 117 (.pointer (some ⟨w.heap.size + 1 + 1, 0, none⟩))) ∧ w'.cell? ⟨w.heap.size + 4, 2, none⟩ = some (.iface 103 (.pointer (some ⟨w.heap.size + 1 + 2, 0, none⟩))) := fun w' h =>
      ⟨cell_of_row w' _ 0 _ 78 (0, 0) (h.trans g3), cell_of_row w' _ 1 _ 78 (0, 0) (h.trans g3), cell_of_row w' _ 2 _ 78 (0, 0) (h.trans g3)⟩
    have Hcells := Lib.hid cells
    have Hown := Lib.hid hown
    have HS := Lib.hid hS
    have Hbel := Lib.hid hbel
    have Hbox := Lib.hid hbox
    by_cases hlt : k < n
    · have hkL : k < L.length := by rw [Hn.out]; exact hlt
      obtain ⟨hP, hok⟩ := HL.out
      obtain ⟨b, off, rfl, hcell⟩ := hP.resolve_left (by intro h; rw [h] at hkL; exact Nat.not_lt_zero _ hkL)
      have hck := hcell k hkL
      have hs := hok _ (List.getElem_mem hkL)
      have hpre := pre_succ L k hkL
      generalize L[k] = sl at hck hs hpre
      obtain ⟨sa, slen, scap, sll⟩ := sl
      have hcw : wr.cell? ⟨b, off + k, none⟩ = some (.slice sa slen scap) := (hbel.cell (p := ⟨b, off + k, none⟩) (cell_in hck)).trans hck
      obtain ⟨k0, k1, k2⟩ := cells wr hbox
      have hlen2 : (pre L k).length + slen ≤ 9223372036854775807 := by
        have h1 := pre_le L (k + 1) (n - (k + 1))
        rw [show k + 1 + (n - (k + 1)) = n from by omega, hpre, List.length_append, hs.hl] at h1
        dsimp only at h1
        omega
      have Hs := Lib.hid hs
      have Hpre := Lib.hid hpre
      clear cells hown hS hbel hbox hcell hck hok hP hs hpre
      go_wp2_with fail
      refine (writes_any (w.heap.size + 1) seed (pre L k) sa slen scap sll wr HS.out ((Low.of Hs.out.bs).below (Below.mono Hbel.out (Nat.le_refl _)) (Nat.le_refl _) |>.mono (Nat.le_succ _)) Hs.out.hl Hs.out.hc Hs.out.hm hlen2).mono ?_
      rintro e w4 ⟨rfl, t4, s4⟩
      clear k0 k1 k2
      obtain ⟨k0, k1, k2⟩ := Hcells.out w4 ((t4.block _ (by omega) (by omega)).trans Hbox.out)
      go_wp2_with fail
      rw [← Hpre.out] at s4
      refine (tolds_any (w.heap.size + 1) seed (pre L (k + 1)) w4 s4).mono ?_
      rintro e w5 ⟨rfl, b5⟩
      unfold sums4
      have hsz4 := t4.size
      have o5 := owns_block (w' := w5) Hown.out (fun j hj => by
        have h1 := Hown.out.lt j hj
        exact (b5.block j (by omega)).trans (t4.block j h1.2 (by omega)))
      have O5 := Lib.hid o5
      have box5 : w5.heap[w.heap.size + 4]? = w3.heap[w.heap.size + 4]? := (b5.block _ (by omega)).trans ((t4.block _ (by omega) (by omega)).trans Hbox.out)
      have S5 := s4.below b5
      have b05 : Below w.heap.size w w5 := Hbel.out.trans ((t4.below (by omega) (by omega)).trans (b5.mono (by omega)))
      have sz5 := b5.size
      clear k0 k1 k2 o5 s4 b5
      go_wp2_with (at_builtin; refine wpList_append_own _ rfl _ _ 41 rfl (w.heap.size + 5) 38 i0 _ 4 32 Try.underlying41 hi hz0 hz1 hz2 rfl (by decide) _ (k + 1) _ rfl (O5.out.alloc _) ⟨w5.heap.size, 0, none⟩ 1 1 (tc4 (pre L (k + 1)) seed) rfl rfl (cells_new w5 (tc4 (pre L (k + 1)) seed) 38) (by simp [tc4, Value.oneCell']) (by unfold maxLen; omega) (by omega) (by simp; omega) ?_; intro v6 w6 o6 hg6 _)
      have b5a : Below w5.heap.size w5 (w5.alloc (.cells (tc4 (pre L (k + 1)) seed).toArray 38)) := (Below.refl _ _).alloc (Nat.le_refl _) _
      have hgb : ∀ j, j < w.heap.size + 5 → w6.heap[j]? = w5.heap[j]? := fun j hj =>
        (hg6.block j (by simp; omega) (fun e => by have := (O5.out.lt j e.symm).1; omega)).trans (b5a.block j (by omega))
      refine ⟨⟨k + 1, by omega, by go_num, by rw [tcs_succ]; exact o6, S5.stay (fun j h1 h2 => hgb j (by omega)), (hgb _ (by omega)).trans box5, ?_, ?_⟩, by simp [intOf]; omega⟩
      · exact (b05.trans (b5a.mono (by omega))).grown hg6 (by simp; omega) (fun j hj => by have := (O5.out.lt j hj).1; omega)
      · have := hg6.size; simp at this; omega
    · go_wp2_with fail
      have hkn : k = n := by omega
      subst hkn
      rcases hown.2 with ⟨_, h0⟩ | ⟨g, C, cur, rfl, hb0, hr⟩
      · omega
      · go_ret2
        exact ⟨some ⟨g, 0, none⟩, C, rfl, ⟨hown.1, .inr ⟨g, C, cur, rfl, by omega, hr⟩⟩, hbel⟩
end Go.Proofs.Ytfnejnoldonfeaa
