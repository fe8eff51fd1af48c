/-
  impl.Summed.
  Conditions: the slices lie in memory, and are small together.
-/
import Derived.Test.YtfnejnoldonfeaaNxt
import Derived.Test.YtfnejnoldonfeaaSma
namespace Go.Proofs.Ytfnejnoldonfeaa
open Go.RowKit BigFrame
set_option maxRecDepth 100000 in
set_option maxHeartbeats 1600000 in
theorem summed_any (seed : BitVec 32) (P : Option Addr) (n c : Nat) (L : List Sl) (w : World) (hL : Ls w P L) (sL : Sm L n) :
    Calls Try.prog 40 #[.int .u32 (un seed), .slice P n c] w fun e w' => e = .returned (.tuple #[tv (pre L n) seed, .bool true]) ∧ Below w.heap.size w w' := by
  have HL := Lib.hid hL
  have SL := Lib.hid sL
  have hnn := sL.hnn
  clear hL sL
  go_enter Try.func40, Try.ntmps40
  go_wp2_with fail
  refine (seeded_any seed _).mono ?_
  rintro e w1 ⟨rfl, s1, b1, z1⟩
  unfold sumsV
  have gR := heap_alloc_new w (.cells #[.int .u32 0, .int .u64 0, .int .u64 0, .int .u64 0] 38)
  have bR : Below w.heap.size w (w.alloc (.cells #[.int .u32 0, .int .u64 0, .int .u64 0, .int .u64 0] 38)) := (Below.refl _ _).alloc (Nat.le_refl _) _
  have zR : (w.alloc (.cells #[.int .u32 0, .int .u64 0, .int .u64 0, .int .u64 0] 38)).heap.size = w.heap.size + 1 := by simp
  generalize w.alloc (.cells #[.int .u32 0, .int .u64 0, .int .u64 0, .int .u64 0] 38) = wa at gR bR zR s1 b1 z1
  rw [zR] at s1 b1 z1
  go_wp2_with fail
  have gR := (b1.block w.heap.size (by omega)).trans gR
  have b01 := bR.trans (b1.mono (by omega))
  have gC := heap_alloc_new w1 (.cells #[.iface 114 (.pointer (some ⟨w.heap.size + 1 + 1, 0, none⟩)), .iface 117 (.pointer (some ⟨w.heap.size + 1 + 1 + 1, 0, none⟩)), .iface 103 (.pointer (some ⟨w.heap.size + 1 + 1 + 2, 0, none⟩))] 78)
  have bC : Below w1.heap.size w1 (w1.alloc (.cells #[.iface 114 (.pointer (some ⟨w.heap.size + 1 + 1, 0, none⟩)), .iface 117 (.pointer (some ⟨w.heap.size + 1 + 1 + 1, 0, none⟩)), .iface 103 (.pointer (some ⟨w.heap.size + 1 + 1 + 2, 0, none⟩))] 78)) := (Below.refl _ _).alloc (Nat.le_refl _) _
  have zC : (w1.alloc (.cells #[.iface 114 (.pointer (some ⟨w.heap.size + 1 + 1, 0, none⟩)), .iface 117 (.pointer (some ⟨w.heap.size + 1 + 1 + 1, 0, none⟩)), .iface 103 (.pointer (some ⟨w.heap.size + 1 + 1 + 2, 0, none⟩))] 78)).heap.size = w1.heap.size + 1 := by simp
  rw [z1] at gC
  generalize w1.alloc (.cells #[.iface 114 (.pointer (some ⟨w.heap.size + 1 + 1, 0, none⟩)), .iface 117 (.pointer (some ⟨w.heap.size + 1 + 1 + 1, 0, none⟩)), .iface 103 (.pointer (some ⟨w.heap.size + 1 + 1 + 2, 0, none⟩))] 78) = W at gC bC zC ⊢
  have gR := (bC.block w.heap.size (by omega)).trans gR
  have S1 := s1.below bC
  have b0W := b01.trans (bC.mono b01.size)
  have zW : w.heap.size + 1 + 4 < W.heap.size := by omega
  clear s1 b1 z1 zR bR b01 bC zC
  have HR := Lib.hid gR
  have HC := Lib.hid gC
  have HS1 := Lib.hid S1
  have HbW := Lib.hid b0W
  clear gR gC S1 b0W
  go_loopw [13] (fun i wr => ∃ k : Nat, k ≤ n ∧ i = .int .i64 k ∧ Sums (w.heap.size + 1 + 1) seed (pre L k) wr ∧ wr.heap[w.heap.size]? = W.heap[w.heap.size]? ∧ wr.heap[w.heap.size + 1 + 4]? = W.heap[w.heap.size + 1 + 4]? ∧ Below w.heap.size w wr ∧ w.heap.size + 1 + 4 < wr.heap.size) (fun i _ => n - (intOf i).toNat)
  case atStart => exact ⟨0, Nat.zero_le _, rfl, HS1.out, rfl, rfl, HbW.out, zW⟩
  case round =>
    obtain ⟨k, hk, rfl, hS, hres, hbox, hbel, hz⟩ := hrel
    have cells : ∀ w' : World, w'.heap[w.heap.size + 1 + 4]? = W.heap[w.heap.size + 1 + 4]? → w'.cell? ⟨w.heap.size + 1 + 4, 0, none⟩ = some (.iface 114 (.pointer (some ⟨w.heap.size + 1 + 1, 0, none⟩))) ∧
        w'.cell? ⟨w.heap.size + 1 + 4, 1, none⟩ = some (.iface 117 (.pointer (some ⟨w.heap.size + 1 + 1 + 1, 0, none⟩))) ∧ w'.cell? ⟨w.heap.size + 1 + 4, 2, none⟩ = some (.iface 103 (.pointer (some ⟨w.heap.size + 1 + 1 + 2, 0, none⟩))) := fun w' h =>
      ⟨cell_of_row w' _ 0 _ 78 (0, 0) (h.trans HC.out), cell_of_row w' _ 1 _ 78 (0, 0) (h.trans HC.out), cell_of_row w' _ 2 _ 78 (0, 0) (h.trans HC.out)⟩
    have Hcells := Lib.hid cells
    have HS := Lib.hid hS
    have Hres := Lib.hid hres
    have Hbox := Lib.hid hbox
    have Hbel := Lib.hid hbel
    clear cells hS hres hbox hbel
    obtain ⟨k0, k1, k2⟩ := Hcells.out wr Hbox.out
    by_cases hlt : k < n
    · have hkL : k < L.length := by rw [SL.out.hn]; exact hlt
      obtain ⟨b, off, rfl, hcw⟩ := HL.out.get Hbel.out k hkL
      have hwrite := fun (w' : World) (hb' : Below w.heap.size w w') (hs' : Sums (w.heap.size + 1 + 1) seed (pre L k) w') => write_next (w.heap.size + 1 + 1) seed HL.out SL.out k hkL w' hb' (by omega) hs'
      have Hwrite := Lib.hid hwrite
      clear hwrite
      generalize L[k] = sl at Hwrite hcw
      obtain ⟨sa, slen, scap, sll⟩ := sl
      go_wp2_with fail
      refine (sumAll_any (w.heap.size + 1 + 1) seed _ wr HS.out).mono ?_
      rintro e w3 ⟨rfl, b3⟩
      have S3 := HS.out.below b3
      have res3 := (b3.block w.heap.size (by omega)).trans Hres.out
      have box3 := (b3.block (w.heap.size + 1 + 4) (by omega)).trans Hbox.out
      have bel3 := Hbel.out.trans (b3.mono Hbel.out.size)
      have hz3 := b3.size
      clear k0 k1 k2 hcw b3 HS Hres Hbox Hbel
      obtain ⟨k0, k1, k2⟩ := Hcells.out w3 box3
      go_wp2_with fail
      refine (Hwrite.out w3 bel3 S3).mono ?_
      rintro e w4 ⟨rfl, t4, s4⟩
      have hz4 := t4.size
      clear k0 k1 k2
      go_wp2_with fail
      refine ⟨⟨k + 1, by omega, by go_num, s4, (t4.block _ (by omega) (by omega)).trans res3, (t4.block _ (by omega) (by omega)).trans box3, bel3.trans (t4.below (by omega) bel3.size), by omega⟩, by simp [intOf]; omega⟩
    · have hkm : k = n := by omega
      subst hkm
      go_wp2_with fail
      refine (sumAll_any (w.heap.size + 1 + 1) seed _ wr HS.out).mono ?_
      rintro e w3 ⟨rfl, b3⟩
      have S3 := HS.out.below b3
      have res3 := (b3.block w.heap.size (by omega)).trans Hres.out
      have box3 := (b3.block (w.heap.size + 1 + 4) (by omega)).trans Hbox.out
      have bel3 := Hbel.out.trans (b3.mono Hbel.out.size)
      have hz3 := b3.size
      clear k0 k1 k2 b3 HS Hres Hbox Hbel
      obtain ⟨k0, k1, k2⟩ := Hcells.out w3 box3
      go_wp2_with fail
      refine (tolds_any (w.heap.size + 1 + 1) seed _ _ S3).mono ?_
      rintro e w8 ⟨rfl, b8⟩
      have res8 := (b8.block w.heap.size (by omega)).trans (res3.trans HR.out)
      have bel8 := bel3.trans (b8.mono bel3.size)
      have c0 : w8.cell? ⟨w.heap.size, 0, none⟩ = some (.int .u32 0) := cell_of_row w8 _ 0 _ 38 (0, 0) res8
      have c1 : w8.cell? ⟨w.heap.size, 1, none⟩ = some (.int .u64 0) := cell_of_row w8 _ 1 _ 38 (0, 0) res8
      have c2 : w8.cell? ⟨w.heap.size, 2, none⟩ = some (.int .u64 0) := cell_of_row w8 _ 2 _ 38 (0, 0) res8
      have c3 : w8.cell? ⟨w.heap.size, 3, none⟩ = some (.int .u64 0) := cell_of_row w8 _ 3 _ 38 (0, 0) res8
      have f0 := frozen_row w8 _ 0 _ 38 res8
      have f1 := frozen_row w8 _ 1 _ 38 res8
      have f2 := frozen_row w8 _ 2 _ 38 res8
      have f3 := frozen_row w8 _ 3 _ 38 res8
      clear res8 k0 k1 k2 b8 res3 box3 bel3 S3
      unfold sums4
      go_wp2_with fail
      refine bodyPost_ret (v := .tuple #[tv (pre L k) seed, .bool true]) (by simp [results, Try.results40, go_sem, c0, c1, c2, c3, tv, sums4]) rfl ⟨rfl, (((bel8.setCell (Nat.le_refl _) _).setCell (Nat.le_refl _) _).setCell (Nat.le_refl _) _).setCell (Nat.le_refl _) _⟩
end Go.Proofs.Ytfnejnoldonfeaa
