/-
  impl.Again.
  Conditions: the slices lie in memory, and are small together.
-/
import Derived.Test.YtfnejnoldonfeaaNxt
import Derived.Test.YtfnejnoldonfeaaRst
namespace Go.Proofs.Ytfnejnoldonfeaa
open Go.RowKit BigFrame
set_option maxRecDepth 100000 in
set_option maxHeartbeats 1600000 in
theorem again_any (seed : BitVec 32) (P : Option Addr) (n c : Nat) (L : List Sl) (Q : Option Addr) (m d : Nat) (M : List Sl) (w : World) (hL : Ls w P L) (sL : Sm L n) (hM : Ls w Q M) (sM : Sm M m) :
    Calls Try.prog 39 #[.int .u32 (un seed), .slice P n c, .slice Q m d] w fun e w' => e = .returned (tv (pre M m) seed) ∧ Below w.heap.size w w' := by
  have HL := Lib.hid hL
  have SL := Lib.hid sL
  have HM := Lib.hid hM
  have SM := Lib.hid sM
  have hnn := sL.hnn
  have hmm := sM.hnn
  clear hL sL hM sM
  go_enter Try.func39, Try.ntmps39
  go_wp2_with fail
  refine (seeded_any seed _).mono ?_
  rintro e w1 ⟨rfl, s1, b1, z1⟩
  unfold sumsV
  have gR := heap_alloc_new w (.cells #[.int .u32 0, .int .u64 0, .int .u64 0, .int .u64 0] 38)
  have bR : Below w.heap.size w (w.alloc (.cells #[.int .u32 0, .int .u64 0, .int .u64 0, .int .u64 0] 38)) := (Below.refl _ _).alloc (Nat.le_refl _) _
  have zR : (w.alloc (.cells #[.int .u32 0, .int .u64 0, .int .u64 0, .int .u64 0] 38)).heap.size = w.heap.size + 1 := by simp
  generalize w.alloc (.cells #[.int .u32 0, .int .u64 0, .int .u64 0, .int .u64 0] 38) = wa at gR bR zR s1 b1 z1
  rw [zR] at s1 b1 z1
  go_wp2_with fail
  have gR := (b1.block w.heap.size (by omega)).trans gR
  have b01 := bR.trans (b1.mono (by omega))
  have gC := heap_alloc_new w1 (.cells #[.iface 114 (.pointer (some ⟨w.heap.size + 1 + 1, 0, none⟩)), .iface 117 (.pointer (some ⟨w.heap.size + 1 + 1 + 1, 0, none⟩)), .iface 103 (.pointer (some ⟨w.heap.size + 1 + 1 + 2, 0, none⟩))] 78)
  have bC : Below w1.heap.size w1 (w1.alloc (.cells #[.iface 114 (.pointer (some ⟨w.heap.size + 1 + 1, 0, none⟩)), .iface 117 (.pointer (some ⟨w.heap.size + 1 + 1 + 1, 0, none⟩)), .iface 103 (.pointer (some ⟨w.heap.size + 1 + 1 + 2, 0, none⟩))] 78)) := (Below.refl _ _).alloc (Nat.le_refl _) _
  have zC : (w1.alloc (.cells #[.iface 114 (.pointer (some ⟨w.heap.size + 1 + 1, 0, none⟩)), .iface 117 (.pointer (some ⟨w.heap.size + 1 + 1 + 1, 0, none⟩)), .iface 103 (.pointer (some ⟨w.heap.size + 1 + 1 + 2, 0, none⟩))] 78)).heap.size = w1.heap.size + 1 := by simp
  rw [z1] at gC
  generalize w1.alloc (.cells #[.iface 114 (.pointer (some ⟨w.heap.size + 1 + 1, 0, none⟩)), .iface 117 (.pointer (some ⟨w.heap.size + 1 + 1 + 1, 0, none⟩)), .iface 103 (.pointer (some ⟨w.heap.size + 1 + 1 + 2, 0, none⟩))] 78) = W at gC bC zC ⊢
  have gR := (bC.block w.heap.size (by omega)).trans gR
  have S1 := s1.below bC
  have b0W := b01.trans (bC.mono b01.size)
  have zW : w.heap.size + 1 + 4 < W.heap.size := by omega
  clear s1 b1 z1 zR bR b01 bC zC
  have HR := Lib.hid gR
  have HC := Lib.hid gC
  have HS1 := Lib.hid S1
  have HbW := Lib.hid b0W
  clear gR gC S1 b0W
  go_loopw [16] (fun i wr => ∃ k : Nat, k ≤ n ∧ i = .int .i64 k ∧ Sums (w.heap.size + 1 + 1) seed (pre L k) wr ∧ wr.heap[w.heap.size]? = W.heap[w.heap.size]? ∧ wr.heap[w.heap.size + 1 + 4]? = W.heap[w.heap.size + 1 + 4]? ∧ Below w.heap.size w wr ∧ w.heap.size + 1 + 4 < wr.heap.size) (fun i _ => n - (intOf i).toNat)
  case atStart => exact ⟨0, Nat.zero_le _, rfl, HS1.out, rfl, rfl, HbW.out, zW⟩
  case round =>
    obtain ⟨k, hk, rfl, hS, hres, hbox, hbel, hz⟩ := hrel
    have cells : ∀ w' : World, w'.heap[w.heap.size + 1 + 4]? = W.heap[w.heap.size + 1 + 4]? → w'.cell? ⟨w.heap.size + 1 + 4, 0, none⟩ = some (.iface 114 (.pointer (some ⟨w.heap.size + 1 + 1, 0, none⟩))) ∧
        w'.cell? ⟨w.heap.size + 1 + 4, 1, none⟩ = some (.iface 117 (.pointer (some ⟨w.heap.size + 1 + 1 + 1, 0, none⟩))) ∧ w'.cell? ⟨w.heap.size + 1 + 4, 2, none⟩ = some (.iface 103 (.pointer (some ⟨w.heap.size + 1 + 1 + 2, 0, none⟩))) := fun w' h =>
      ⟨cell_of_row w' _ 0 _ 78 (0, 0) (h.trans HC.out), cell_of_row w' _ 1 _ 78 (0, 0) (h.trans HC.out), cell_of_row w' _ 2 _ 78 (0, 0) (h.trans HC.out)⟩
    have Hcells := Lib.hid cells
    have HS := Lib.hid hS
    have Hres := Lib.hid hres
    have Hbox := Lib.hid hbox
    have Hbel := Lib.hid hbel
    clear cells hS hres hbox hbel
    obtain ⟨k0, k1, k2⟩ := Hcells.out wr Hbox.out
    by_cases hlt : k < n
    · have hkL : k < L.length := by rw [SL.out.hn]; exact hlt
      have hwrite := Lib.hid (write_next (w.heap.size + 1 + 1) seed HL.out SL.out k hkL wr Hbel.out (by omega) HS.out)
      obtain ⟨b, off, rfl, hcw⟩ := HL.out.get Hbel.out k hkL
      generalize L[k] = sl at hwrite hcw
      obtain ⟨sa, slen, scap, sll⟩ := sl
      go_wp2_with fail
      refine hwrite.out.mono ?_
      rintro e w4 ⟨rfl, t4, s4⟩
      have hz4 := t4.size
      clear k0 k1 k2 hcw
      go_wp2_with fail
      refine ⟨⟨k + 1, by omega, by go_num, s4, (t4.block _ (by omega) (by omega)).trans Hres.out, (t4.block _ (by omega) (by omega)).trans Hbox.out, Hbel.out.trans (t4.below (by omega) Hbel.out.size), by omega⟩, by simp [intOf]; omega⟩
    · go_wp2_with fail
      refine (resetSt32 (w.heap.size + 1 + 1) seed _ _ HS.out.s32).mono ?_
      rintro e w5 ⟨rfl, t5, o5⟩
      have x5 := HS.out.s64.keep (o5.block _ (by omega))
      have y5 := HS.out.s128.keep (o5.block _ (by omega))
      have res5 := (o5.block _ (by omega)).trans Hres.out
      have box5 := (o5.block _ (by omega)).trans Hbox.out
      have bel5 := Hbel.out.trans (o5.below (by omega))
      have hz5 := o5.size
      clear k0 k1 k2 HS Hres Hbox Hbel
      obtain ⟨k0, k1, k2⟩ := Hcells.out w5 box5
      go_wp2_with fail
      refine (resetSt128 (w.heap.size + 1 + 1 + 1) seed _ _ x5).mono ?_
      rintro e w6 ⟨rfl, t6, o6⟩
      have x6 := t5.keep (o6.block _ (by omega))
      have y6 := y5.keep (o6.block _ (by omega))
      have res6 := (o6.block _ (by omega)).trans res5
      have box6 := (o6.block _ (by omega)).trans box5
      have bel6 := bel5.trans (o6.below (by omega))
      have hz6 := o6.size
      clear k0 k1 k2 t5 x5 y5 res5 box5 bel5 o5
      obtain ⟨k0, k1, k2⟩ := Hcells.out w6 box6
      go_wp2_with fail
      refine (resetSt128 (w.heap.size + 1 + 1 + 2) seed _ _ y6).mono ?_
      rintro e w7 ⟨rfl, t7, o7⟩
      have S7 : Sums (w.heap.size + 1 + 1) seed [] w7 := ⟨x6.keep (o7.block _ (by omega)), t6.keep (o7.block _ (by omega)), t7⟩
      have res7 := (o7.block _ (by omega)).trans res6
      have box7 := (o7.block _ (by omega)).trans box6
      have bel7 := bel6.trans (o7.below (by omega))
      have hz7 : w.heap.size + 1 + 4 < w7.heap.size := by have := o7.size; omega
      clear k0 k1 k2 t6 x6 y6 res6 box6 bel6 o6 o7 t7 hz5 hz6
      have HS7 := Lib.hid S7
      have Hres7 := Lib.hid res7
      have Hbox7 := Lib.hid box7
      have Hbel7 := Lib.hid bel7
      clear S7 res7 box7 bel7
      go_wp2_with fail
      go_loopw [35] (fun i wr => ∃ k : Nat, k ≤ m ∧ i = .int .i64 k ∧ Sums (w.heap.size + 1 + 1) seed (pre M k) wr ∧ wr.heap[w.heap.size]? = W.heap[w.heap.size]? ∧ wr.heap[w.heap.size + 1 + 4]? = W.heap[w.heap.size + 1 + 4]? ∧ Below w.heap.size w wr ∧ w.heap.size + 1 + 4 < wr.heap.size) (fun i _ => m - (intOf i).toNat)
      case atStart => exact ⟨0, Nat.zero_le _, rfl, HS7.out, Hres7.out, Hbox7.out, Hbel7.out, hz7⟩
      case round =>
        clear hk hlt hz HS7 Hres7 Hbox7 Hbel7 hz7
        obtain ⟨k, hk, rfl, hS, hres, hbox, hbel, hz⟩ := hrel
        have HS := Lib.hid hS
        have Hres := Lib.hid hres
        have Hbox := Lib.hid hbox
        have Hbel := Lib.hid hbel
        clear hS hres hbox hbel
        obtain ⟨k0, k1, k2⟩ := Hcells.out wr Hbox.out
        by_cases hlt : k < m
        · have hkL : k < M.length := by rw [SM.out.hn]; exact hlt
          have hwrite := Lib.hid (write_next (w.heap.size + 1 + 1) seed HM.out SM.out k hkL wr Hbel.out (by omega) HS.out)
          obtain ⟨b, off, rfl, hcw⟩ := HM.out.get Hbel.out k hkL
          generalize M[k] = sl at hwrite hcw
          obtain ⟨sa, slen, scap, sll⟩ := sl
          go_wp2_with fail
          refine hwrite.out.mono ?_
          rintro e w4 ⟨rfl, t4, s4⟩
          have hz4 := t4.size
          clear k0 k1 k2 hcw
          go_wp2_with fail
          refine ⟨⟨k + 1, by omega, by go_num, s4, (t4.block _ (by omega) (by omega)).trans Hres.out, (t4.block _ (by omega) (by omega)).trans Hbox.out, Hbel.out.trans (t4.below (by omega) Hbel.out.size), by omega⟩, by simp [intOf]; omega⟩
        · have hkm : k = m := by omega
          subst hkm
          go_wp2_with fail
          refine (tolds_any (w.heap.size + 1 + 1) seed _ _ HS.out).mono ?_
          rintro e w8 ⟨rfl, b8⟩
          have res8 := (b8.block w.heap.size (by omega)).trans (Hres.out.trans HR.out)
          have bel8 := Hbel.out.trans (b8.mono Hbel.out.size)
          have c0 : w8.cell? ⟨w.heap.size, 0, none⟩ = some (.int .u32 0) := cell_of_row w8 _ 0 _ 38 (0, 0) res8
          have c1 : w8.cell? ⟨w.heap.size, 1, none⟩ = some (.int .u64 0) := cell_of_row w8 _ 1 _ 38 (0, 0) res8
          have c2 : w8.cell? ⟨w.heap.size, 2, none⟩ = some (.int .u64 0) := cell_of_row w8 _ 2 _ 38 (0, 0) res8
          have c3 : w8.cell? ⟨w.heap.size, 3, none⟩ = some (.int .u64 0) := cell_of_row w8 _ 3 _ 38 (0, 0) res8
          have f0 := frozen_row w8 _ 0 _ 38 res8
          have f1 := frozen_row w8 _ 1 _ 38 res8
          have f2 := frozen_row w8 _ 2 _ 38 res8
          have f3 := frozen_row w8 _ 3 _ 38 res8
          clear res8 k0 k1 k2 b8
          unfold sums4
          go_wp2_with fail
          refine bodyPost_ret (v := tv (pre M k) seed) (by simp [results, Try.results39, go_sem, c0, c1, c2, c3, tv, sums4]) rfl ⟨rfl, (((bel8.setCell (Nat.le_refl _) _).setCell (Nat.le_refl _) _).setCell (Nat.le_refl _) _).setCell (Nat.le_refl _) _⟩
end Go.Proofs.Ytfnejnoldonfeaa
