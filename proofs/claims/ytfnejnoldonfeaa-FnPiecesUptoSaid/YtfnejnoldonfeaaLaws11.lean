/-
  The law FnPieces as a walk: it returns true.
  Conditions: the slices lie in memory, and are small together.
-/
import Derived.Test.YtfnejnoldonfeaaFit
import Derived.Test.YtfnejnoldonfeaaLaws7
namespace Go.Proofs.Ytfnejnoldonfeaa
open Go.RowKit BigFrame
set_option maxRecDepth 100000 in
set_option maxHeartbeats 1600000 in
theorem fnPieces_any (seed : BitVec 32) (P : Option Addr) (n c : Nat) (L : List Sl) (w0 : World) (h : Ls w0 P L) (s : Sm L n) :
    Calls Try.prog 13 #[.int .u32 (un seed), .slice P n c] w0 fun e w' => e = .returned (.bool true) ∧ Below w0.heap.size w0 w' := by
  have H := Lib.hid h
  have S := Lib.hid s
  have hnn := s.hnn
  clear h s
  go_enter Try.func13, Try.ntmps13
  go_wp2_with fail
  refine (fits_any P n c L _ H.out S.out).mono ?_
  rintro e w ⟨rfl, rfl⟩
  go_wp2_with fail
  refine (pieces_any seed P n c L _ H.out S.out.hn hnn (Nat.le_trans S.out.htot (by decide))).mono ?_
  rintro e w1 ⟨A, C, rfl, o1, b1⟩
  rcases o1.2 with ⟨_, h0⟩ | ⟨g, C', cur, e1, hg, hcur, hr⟩
  · exact absurd h0 (Nat.succ_ne_zero n)
  injection e1 with ea _ ec
  subst ea ec
  clear hg hcur hr
  have O1 := Lib.hid o1
  have B1 := Lib.hid b1
  clear o1 b1
  go_wp2_with fail
  go_loopw [7, 31] (fun t i wr => ∃ (k m cc : Nat) (T : Option Addr), k ≤ n + 1 ∧ i = .int .i64 k ∧ t = .slice T m cc ∧ Own wr w1.heap.size T m cc (pre L (k - 1)) ∧ Below w1.heap.size w1 wr) (fun _ i _ => n + 1 - (intOf i).toNat)
  case atStart => exact ⟨0, 0, 0, none, Nat.zero_le _, rfl, rfl, Own.nil _ _, Below.refl _ _⟩
  case round =>
    obtain ⟨k, m, cc, T, hk, rfl, rfl, hown, hbel⟩ := hrel
    have Hown := Lib.hid hown
    have Hbel := Lib.hid hbel
    by_cases hlt : k < n + 1
    · have hc : ∀ t, t < 4 → wr.cell? ⟨g, k * 4 + t, none⟩ = (tc4 (pre L k) seed)[t]? := fun t ht => by
        rw [Nat.mul_comm]
        have h1 := (O1.out.cellAt (4 * k + t) (by omega)).trans (tcs_at L seed (n + 1) k t hlt ht)
        obtain ⟨u, hu⟩ : ∃ u, (tc4 (pre L k) seed)[t]? = some u := ⟨_, List.getElem?_eq_getElem (by simp [tc4]; exact ht)⟩
        rw [hu] at h1 ⊢
        exact (hbel.cell (p := ⟨g, 4 * k + t, none⟩) (cell_in h1)).trans h1
      have c0 : wr.cell? ⟨g, k * 4, none⟩ = some (.int .u32 (un (sum32 (pre L k) seed))) := hc 0 (by decide)
      have c1 : wr.cell? ⟨g, k * 4 + 1, none⟩ = some (.int .u64 (un (sum128 (pre L k) seed).1)) := hc 1 (by decide)
      have c2 : wr.cell? ⟨g, k * 4 + 2, none⟩ = some (.int .u64 (un (sum128 (pre L k) seed).1)) := hc 2 (by decide)
      have c3 : wr.cell? ⟨g, k * 4 + 3, none⟩ = some (.int .u64 (un (sum128 (pre L k) seed).2)) := hc 3 (by decide)
      clear hown hbel hc
      rcases k with _ | k
      · go_wp2_with fail
        clear c0 c1 c2 c3
        have g2 := heap_alloc_new wr (.cells #[.int .u32 (un (sum32 (pre L 0) seed)), .int .u64 (un (sum128 (pre L 0) seed).1), .int .u64 (un (sum128 (pre L 0) seed).1), .int .u64 (un (sum128 (pre L 0) seed).2)] 38)
        have b2 : Below wr.heap.size wr (wr.alloc (.cells #[.int .u32 (un (sum32 (pre L 0) seed)), .int .u64 (un (sum128 (pre L 0) seed).1), .int .u64 (un (sum128 (pre L 0) seed).1), .int .u64 (un (sum128 (pre L 0) seed).2)] 38)) := (Below.refl _ _).alloc (Nat.le_refl _) _
        have z2 : (wr.alloc (.cells #[.int .u32 (un (sum32 (pre L 0) seed)), .int .u64 (un (sum128 (pre L 0) seed).1), .int .u64 (un (sum128 (pre L 0) seed).1), .int .u64 (un (sum128 (pre L 0) seed).2)] 38)).heap.size = wr.heap.size + 1 := by simp
        generalize wr.alloc (.cells #[.int .u32 (un (sum32 (pre L 0) seed)), .int .u64 (un (sum128 (pre L 0) seed).1), .int .u64 (un (sum128 (pre L 0) seed).1), .int .u64 (un (sum128 (pre L 0) seed).2)] 38) = w2 at g2 b2 z2 ⊢
        have own2 : Own w2 w1.heap.size T m cc (pre L 0) := Hown.out.below b2
        have bel2 : Below w1.heap.size w1 w2 := Hbel.out.trans (b2.mono Hbel.out.size)
        have hle := own2.le
        have Hl := Lib.hid own2.1
        have Hbx := Lib.hid (show ∀ x : Ext w2, Bs x.at T (pre L 0) from fun x => own2.bs.mem x.below)
        have G2 : ∀ x : Ext w2, x.at.heap[wr.heap.size]? = _ := fun x => (x.below.block _ (by omega)).trans g2
        have j0 : ∀ x : Ext w2, x.at.cell? ⟨wr.heap.size, 0, none⟩ = some (.int .u32 (un (sum32 (pre L 0) seed))) := fun x => cell_of_row x.at _ 0 _ 38 (0, 0) (G2 x)
        have j1 : ∀ x : Ext w2, x.at.cell? ⟨wr.heap.size, 1, none⟩ = some (.int .u64 (un (sum128 (pre L 0) seed).1)) := fun x => cell_of_row x.at _ 1 _ 38 (0, 0) (G2 x)
        have j2 : ∀ x : Ext w2, x.at.cell? ⟨wr.heap.size, 2, none⟩ = some (.int .u64 (un (sum128 (pre L 0) seed).1)) := fun x => cell_of_row x.at _ 2 _ 38 (0, 0) (G2 x)
        have j3 : ∀ x : Ext w2, x.at.cell? ⟨wr.heap.size, 3, none⟩ = some (.int .u64 (un (sum128 (pre L 0) seed).2)) := fun x => cell_of_row x.at _ 3 _ 38 (0, 0) (G2 x)
        have Own2 := Lib.hid own2
        have Bel2 := Lib.hid bel2
        clear own2 bel2 G2 g2 b2 z2
        refine wp_region_ext (by kernel_rfl) (by kernel_rfl) ?_
        iterate 4 (go_big_quiet_step ((go_at_call 29; exact Calls.ext_of_below (told_any T m cc (pre L 0) seed _ (Hbx.out _) Hl.out hle.1 hle.2))))
        refine wpQuiet_neq38 (by rfl) _ _ _ rfl _ _ _ _ _ _ _ _ rfl rfl (.bool false) (by simp) ?_
        simp only [Act.put, List.setIfInBounds_toArray, List.set_cons_succ, List.set_cons_zero]
        refine wpQuiet_nil ?_
        rintro _ ⟨x, rfl⟩
        have hxb := Lib.hid x.below
        clear j0 j1 j2 j3
        go_wp2_with fail
        refine ⟨⟨1, m, cc, T, by omega, by go_num, rfl, Own2.out.below hxb.out, Bel2.out.trans (hxb.out.mono Bel2.out.size)⟩, by simp [intOf]⟩
      · have hkL : k < L.length := by rw [S.out.hn]; omega
        have hpre := pre_succ L k hkL
        have hs := H.out.2 _ (List.getElem_mem hkL)
        have hone := S.out.one H.out k hkL
        obtain ⟨b, off, rfl, hcw⟩ := H.out.get (B1.out.trans (Hbel.out.mono B1.out.size)) k hkL
        generalize L[k] = sl at hpre hs hone hcw
        obtain ⟨sa, slen, scap, sll⟩ := sl
        have Hs := Lib.hid hs
        have Hpre := Lib.hid hpre
        have hblt : b < wr.heap.size := cell_in hcw
        clear hs hpre
        have g2 := heap_alloc_new wr (.cells #[.int .u32 (un (sum32 (pre L (k + 1)) seed)), .int .u64 (un (sum128 (pre L (k + 1)) seed).1), .int .u64 (un (sum128 (pre L (k + 1)) seed).1), .int .u64 (un (sum128 (pre L (k + 1)) seed).2)] 38)
        have b2 : Below wr.heap.size wr (wr.alloc (.cells #[.int .u32 (un (sum32 (pre L (k + 1)) seed)), .int .u64 (un (sum128 (pre L (k + 1)) seed).1), .int .u64 (un (sum128 (pre L (k + 1)) seed).1), .int .u64 (un (sum128 (pre L (k + 1)) seed).2)] 38)) := (Below.refl _ _).alloc (Nat.le_refl _) _
        have z2 : (wr.alloc (.cells #[.int .u32 (un (sum32 (pre L (k + 1)) seed)), .int .u64 (un (sum128 (pre L (k + 1)) seed).1), .int .u64 (un (sum128 (pre L (k + 1)) seed).1), .int .u64 (un (sum128 (pre L (k + 1)) seed).2)] 38)).heap.size = wr.heap.size + 1 := by simp
        have own2 : Own (wr.alloc (.cells #[.int .u32 (un (sum32 (pre L (k + 1)) seed)), .int .u64 (un (sum128 (pre L (k + 1)) seed).1), .int .u64 (un (sum128 (pre L (k + 1)) seed).1), .int .u64 (un (sum128 (pre L (k + 1)) seed).2)] 38)) w1.heap.size T m cc (pre L k) := Hown.out.below b2
        have bel2 : Below w1.heap.size w1 (wr.alloc (.cells #[.int .u32 (un (sum32 (pre L (k + 1)) seed)), .int .u64 (un (sum128 (pre L (k + 1)) seed).1), .int .u64 (un (sum128 (pre L (k + 1)) seed).1), .int .u64 (un (sum128 (pre L (k + 1)) seed).2)] 38)) := Hbel.out.trans (b2.mono Hbel.out.size)
        have bs2 : Bs (wr.alloc (.cells #[.int .u32 (un (sum32 (pre L (k + 1)) seed)), .int .u64 (un (sum128 (pre L (k + 1)) seed).1), .int .u64 (un (sum128 (pre L (k + 1)) seed).1), .int .u64 (un (sum128 (pre L (k + 1)) seed).2)] 38)) sa sll := Hs.out.bs.mem ((B1.out.trans (Hbel.out.mono B1.out.size)).trans (b2.mono (Nat.le_trans B1.out.size Hbel.out.size)))
        have hroom : m + slen ≤ 140737488355328 := by have hm : (pre L k).length = m := own2.1; have h1 : (pre L k).length + slen ≤ 1048576 := hone; omega
        have G2 := Lib.hid g2
        have Z2 := Lib.hid z2
        have B2 := Lib.hid b2
        have Own2 := Lib.hid own2
        have Bel2 := Lib.hid bel2
        have Bs2 := Lib.hid bs2
        clear g2 z2 b2 own2 bel2 bs2
        go_wp2_with (at_builtin; refine wpList_app _ rfl _ _ rfl w1.heap.size T m cc (pre L k) rfl Own2.out sa slen scap sll rfl Bs2.out Hs.out.hl hroom Bel2.out.size ?_; intro a3 cap3 w3 hown3 hg3 _)
        rw [← Hpre.out] at hown3
        have bel3 : Below w1.heap.size w1 w3 := Bel2.out.trans (own_grown Own2.out Bel2.out.size hg3)
        have g3 := (hg3.block wr.heap.size (by rw [Z2.out]; omega) (fun e => by have := (Hown.out.lt _ e.symm).2; omega)).trans G2.out
        have z3 := hg3.size
        rw [Z2.out] at z3
        have hle := hown3.le
        have Hl := Lib.hid hown3.1
        have Hbx := Lib.hid (show ∀ x : Ext w3, Bs x.at a3 (pre L (k + 1)) from fun x => hown3.bs.mem x.below)
        have GX : ∀ x : Ext w3, x.at.heap[wr.heap.size]? = _ := fun x => (x.below.block _ (by omega)).trans g3
        have j0 : ∀ x : Ext w3, x.at.cell? ⟨wr.heap.size, 0, none⟩ = some (.int .u32 (un (sum32 (pre L (k + 1)) seed))) := fun x => cell_of_row x.at _ 0 _ 38 (0, 0) (GX x)
        have j1 : ∀ x : Ext w3, x.at.cell? ⟨wr.heap.size, 1, none⟩ = some (.int .u64 (un (sum128 (pre L (k + 1)) seed).1)) := fun x => cell_of_row x.at _ 1 _ 38 (0, 0) (GX x)
        have j2 : ∀ x : Ext w3, x.at.cell? ⟨wr.heap.size, 2, none⟩ = some (.int .u64 (un (sum128 (pre L (k + 1)) seed).1)) := fun x => cell_of_row x.at _ 2 _ 38 (0, 0) (GX x)
        have j3 : ∀ x : Ext w3, x.at.cell? ⟨wr.heap.size, 3, none⟩ = some (.int .u64 (un (sum128 (pre L (k + 1)) seed).2)) := fun x => cell_of_row x.at _ 3 _ 38 (0, 0) (GX x)
        have Own3 := Lib.hid hown3
        have Bel3 := Lib.hid bel3
        clear hown3 bel3 GX g3 z3 hg3 c0 c1 c2 c3 hcw G2 Z2 B2 Own2 Bel2 Bs2
        refine wp_region_ext (by kernel_rfl) (by kernel_rfl) ?_
        iterate 4 (go_big_quiet_step ((go_at_call 29; exact Calls.ext_of_below (told_any a3 (m + slen) cap3 (pre L (k + 1)) seed _ (Hbx.out _) Hl.out hle.1 hle.2))))
        refine wpQuiet_neq38 (by rfl) _ _ _ rfl _ _ _ _ _ _ _ _ rfl rfl (.bool false) (by simp) ?_
        simp only [Act.put, List.setIfInBounds_toArray, List.set_cons_succ, List.set_cons_zero]
        refine wpQuiet_nil ?_
        rintro _ ⟨x, rfl⟩
        have hxb := Lib.hid x.below
        clear j0 j1 j2 j3
        go_wp2_with fail
        refine ⟨⟨k + 2, m + slen, cap3, a3, by omega, by go_num, rfl, Own3.out.below hxb.out, Bel3.out.trans (hxb.out.mono Bel3.out.size)⟩, by simp [intOf]; omega⟩
    · go_wp2_with fail
      go_ret
      exact ⟨rfl, B1.out.trans (hbel.mono B1.out.size)⟩
end Go.Proofs.Ytfnejnoldonfeaa
