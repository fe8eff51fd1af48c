/-
  The law FnTurns as a walk: it returns true.
  Conditions: the slices lie in memory, and are small together.
-/
import Derived.Test.YtfnejnoldonfeaaTur
import Derived.Test.YtfnejnoldonfeaaLaws7
import Derived.Test.YtfnejnoldonfeaaEqw
namespace Go.Proofs.Ytfnejnoldonfeaa
open Go.RowKit BigFrame
set_option maxRecDepth 100000 in
set_option maxHeartbeats 1600000 in
theorem fnTurns_any (seed other : BitVec 32) (P : Option Addr) (n c : Nat) (L : List Sl) (Q : Option Addr) (m d : Nat) (M : List Sl) (w0 : World) (hL : Ls w0 P L) (sL : Sm L n) (hM : Ls w0 Q M) (sM : Sm M m) :
    Calls Try.prog 17 #[.int .u32 (un seed), .int .u32 (un other), .slice P n c, .slice Q m d] w0 fun e w' => e = .returned (.bool true) ∧ Below w0.heap.size w0 w' := by
  have HL := Lib.hid hL
  have SL := Lib.hid sL
  have HM := Lib.hid hM
  have SM := Lib.hid sM
  have hnn := sL.hnn
  have hmm := sM.hnn
  clear hL sL hM sM
  go_enter Try.func17, Try.ntmps17
  go_wp2_with fail
  refine (fits_any P n c L _ HL.out SL.out).mono ?_
  rintro e w1 ⟨rfl, rfl⟩
  go_wp2_with fail
  refine (fits_any Q m d M _ HM.out SM.out).mono ?_
  rintro e w ⟨rfl, rfl⟩
  go_wp2_with fail
  go_loopw [9, 27] (fun t i wr => ∃ (k mm cc : Nat) (T : Option Addr), k ≤ n ∧ i = .int .i64 k ∧ t = .slice T mm cc ∧ Own wr w.heap.size T mm cc (pre L k) ∧ Below w.heap.size w wr) (fun _ i _ => n - (intOf i).toNat)
  case atStart => exact ⟨0, 0, 0, none, Nat.zero_le _, rfl, rfl, Own.nil _ _, Below.refl _ _⟩
  case round =>
    obtain ⟨k, mm, cc, T, hk, rfl, rfl, hown, hbel⟩ := hrel
    have Hown := Lib.hid hown
    have Hbel := Lib.hid hbel
    have Hw := Lib.hid hbel
    clear hown hbel
    by_cases hlt : k < n
    · have hkL : k < L.length := by rw [SL.out.hn]; exact hlt
      have hpre := pre_succ L k hkL
      have hs := HL.out.2 _ (List.getElem_mem hkL)
      have hone := SL.out.one HL.out k hkL
      obtain ⟨b, off, rfl, hcw⟩ := HL.out.get Hw.out k hkL
      generalize L[k] = sl at hpre hs hone hcw
      obtain ⟨sa, slen, scap, sll⟩ := sl
      have Hs := Lib.hid hs
      have Hpre := Lib.hid hpre
      have hroom : mm + slen ≤ 140737488355328 := by have hm : (pre L k).length = mm := Hown.out.1; have h1 : (pre L k).length + slen ≤ 1048576 := hone; omega
      have Bs2 := Lib.hid (Hs.out.bs.mem Hw.out)
      clear hs hpre hone
      go_wp2_with (at_builtin; refine wpList_app _ rfl _ _ rfl w.heap.size T mm cc (pre L k) rfl Hown.out sa slen scap sll rfl Bs2.out Hs.out.hl hroom Hbel.out.size ?_; intro a3 cap3 w3 hown3 hg3 _)
      rw [← Hpre.out] at hown3
      refine ⟨⟨k + 1, mm + slen, cap3, a3, by omega, by go_num, rfl, hown3, Hbel.out.trans (own_grown Hown.out Hbel.out.size hg3)⟩, by simp [intOf]; omega⟩
    · have hkn : n = k := by omega
      subst hkn
      have OwnA := Lib.hid Hown.out
      have BelA := Lib.hid Hbel.out
      clear Hown Hbel Hw
      obtain ⟨wa, rfl⟩ : ∃ x, x = wr := ⟨_, rfl⟩
      go_wp2_with fail
      go_loopw [10, 37] (fun t i wt => ∃ (k ma ca : Nat) (U : Option Addr), k ≤ m ∧ i = .int .i64 k ∧ t = .slice U ma ca ∧ Own wt wa.heap.size U ma ca (pre M k) ∧ Below wa.heap.size wa wt) (fun _ i _ => m - (intOf i).toNat)
      case atStart => exact ⟨0, 0, 0, none, Nat.zero_le _, rfl, rfl, Own.nil _ _, Below.refl _ _⟩
      case round =>
        obtain ⟨k, ma, ca, U, hk, rfl, rfl, hown, hbel⟩ := hrel
        have Hown := Lib.hid hown
        have Hbel := Lib.hid hbel
        have Hw := Lib.hid (BelA.out.trans (hbel.mono BelA.out.size))
        clear hown hbel
        by_cases hlt : k < m
        · have hkL : k < M.length := by rw [SM.out.hn]; exact hlt
          have hpre := pre_succ M k hkL
          have hs := HM.out.2 _ (List.getElem_mem hkL)
          have hone := SM.out.one HM.out k hkL
          obtain ⟨b, off, rfl, hcw⟩ := HM.out.get Hw.out k hkL
          generalize M[k] = sl at hpre hs hone hcw
          obtain ⟨sa, slen, scap, sll⟩ := sl
          have Hs := Lib.hid hs
          have Hpre := Lib.hid hpre
          have hroom : ma + slen ≤ 140737488355328 := by have hm : (pre M k).length = ma := Hown.out.1; have h1 : (pre M k).length + slen ≤ 1048576 := hone; omega
          have Bs2 := Lib.hid (Hs.out.bs.mem Hw.out)
          clear hs hpre hone
          go_wp2_with (at_builtin; refine wpList_app _ rfl _ _ rfl wa.heap.size U ma ca (pre M k) rfl Hown.out sa slen scap sll rfl Bs2.out Hs.out.hl hroom Hbel.out.size ?_; intro a3 cap3 w3 hown3 hg3 _)
          rw [← Hpre.out] at hown3
          refine ⟨⟨k + 1, ma + slen, cap3, a3, by omega, by go_num, rfl, hown3, Hbel.out.trans (own_grown Hown.out Hbel.out.size hg3)⟩, by simp [intOf]; omega⟩
        · have hkm : m = k := by omega
          subst hkm
          have OwnB := Lib.hid Hown.out
          have OwnC := Lib.hid (OwnA.out.below Hbel.out)
          clear Hown Hbel OwnA BelA
          have hleA := OwnC.out.le
          have hleB := OwnB.out.le
          go_wp2_with fail
          refine (turns_any seed other P n c L Q m d M _ (HL.out.mem Hw.out) SL.out (HM.out.mem Hw.out) SM.out).mono ?_
          rintro e w4 ⟨rfl, b4⟩
          unfold tv sums4
          go_wp2_with fail
          have bW : Below w4.heap.size w4 ((w4.alloc (.cells #[.int .u32 (un (sum32 (pre L n) seed)), .int .u64 (un (sum128 (pre L n) seed).1), .int .u64 (un (sum128 (pre L n) seed).1), .int .u64 (un (sum128 (pre L n) seed).2)] 38)).alloc (.cells #[.int .u32 (un (sum32 (pre M m) other)), .int .u64 (un (sum128 (pre M m) other).1), .int .u64 (un (sum128 (pre M m) other).1), .int .u64 (un (sum128 (pre M m) other).2)] 38)) := ((Below.refl _ _).alloc (Nat.le_refl _) _).alloc (by simp) _
          have g1 := (((Below.refl (w4.heap.size + 1) _).alloc (by simp) (.cells #[.int .u32 (un (sum32 (pre M m) other)), .int .u64 (un (sum128 (pre M m) other).1), .int .u64 (un (sum128 (pre M m) other).1), .int .u64 (un (sum128 (pre M m) other).2)] 38)).block w4.heap.size (by omega)).trans (heap_alloc_new w4 (.cells #[.int .u32 (un (sum32 (pre L n) seed)), .int .u64 (un (sum128 (pre L n) seed).1), .int .u64 (un (sum128 (pre L n) seed).1), .int .u64 (un (sum128 (pre L n) seed).2)] 38))
          have g2 := heap_alloc_new (w4.alloc (.cells #[.int .u32 (un (sum32 (pre L n) seed)), .int .u64 (un (sum128 (pre L n) seed).1), .int .u64 (un (sum128 (pre L n) seed).1), .int .u64 (un (sum128 (pre L n) seed).2)] 38)) (.cells #[.int .u32 (un (sum32 (pre M m) other)), .int .u64 (un (sum128 (pre M m) other).1), .int .u64 (un (sum128 (pre M m) other).1), .int .u64 (un (sum128 (pre M m) other).2)] 38)
          have zW : ((w4.alloc (.cells #[.int .u32 (un (sum32 (pre L n) seed)), .int .u64 (un (sum128 (pre L n) seed).1), .int .u64 (un (sum128 (pre L n) seed).1), .int .u64 (un (sum128 (pre L n) seed).2)] 38)).alloc (.cells #[.int .u32 (un (sum32 (pre M m) other)), .int .u64 (un (sum128 (pre M m) other).1), .int .u64 (un (sum128 (pre M m) other).1), .int .u64 (un (sum128 (pre M m) other).2)] 38)).heap.size = w4.heap.size + 2 := by simp
          rw [show (w4.alloc (.cells #[.int .u32 (un (sum32 (pre L n) seed)), .int .u64 (un (sum128 (pre L n) seed).1), .int .u64 (un (sum128 (pre L n) seed).1), .int .u64 (un (sum128 (pre L n) seed).2)] 38)).heap.size = w4.heap.size + 1 from by simp] at g2
          generalize ((w4.alloc (.cells #[.int .u32 (un (sum32 (pre L n) seed)), .int .u64 (un (sum128 (pre L n) seed).1), .int .u64 (un (sum128 (pre L n) seed).1), .int .u64 (un (sum128 (pre L n) seed).2)] 38)).alloc (.cells #[.int .u32 (un (sum32 (pre M m) other)), .int .u64 (un (sum128 (pre M m) other).1), .int .u64 (un (sum128 (pre M m) other).1), .int .u64 (un (sum128 (pre M m) other).2)] 38)) = W at bW g1 g2 zW ⊢
          have bWr := b4.trans (bW.mono b4.size)
          have bel2 := Hw.out.trans (bWr.mono Hw.out.size)
          have ownA := OwnC.out.below bWr
          have ownB := OwnB.out.below bWr
          have Ha := Lib.hid ownA.1
          have Hb := Lib.hid ownB.1
          have HxA := Lib.hid (show ∀ x : Ext W, Bs x.at T (pre L n) from fun x => ownA.bs.mem x.below)
          have HxB := Lib.hid (show ∀ x : Ext W, Bs x.at U (pre M m) from fun x => ownB.bs.mem x.below)
          have E1 : ∀ x : Ext W, x.at.heap[w4.heap.size]? = _ := fun x => (x.below.block _ (by omega)).trans g1
          have E2 : ∀ x : Ext W, x.at.heap[w4.heap.size + 1]? = _ := fun x => (x.below.block _ (by omega)).trans g2
          have i0 : ∀ x : Ext W, x.at.cell? ⟨w4.heap.size, 0, none⟩ = some (.int .u32 (un (sum32 (pre L n) seed))) := fun x => cell_of_row x.at _ 0 _ 38 (0, 0) (E1 x)
          have i1 : ∀ x : Ext W, x.at.cell? ⟨w4.heap.size, 1, none⟩ = some (.int .u64 (un (sum128 (pre L n) seed).1)) := fun x => cell_of_row x.at _ 1 _ 38 (0, 0) (E1 x)
          have i2 : ∀ x : Ext W, x.at.cell? ⟨w4.heap.size, 2, none⟩ = some (.int .u64 (un (sum128 (pre L n) seed).1)) := fun x => cell_of_row x.at _ 2 _ 38 (0, 0) (E1 x)
          have i3 : ∀ x : Ext W, x.at.cell? ⟨w4.heap.size, 3, none⟩ = some (.int .u64 (un (sum128 (pre L n) seed).2)) := fun x => cell_of_row x.at _ 3 _ 38 (0, 0) (E1 x)
          have j0 : ∀ x : Ext W, x.at.cell? ⟨w4.heap.size + 1, 0, none⟩ = some (.int .u32 (un (sum32 (pre M m) other))) := fun x => cell_of_row x.at _ 0 _ 38 (0, 0) (E2 x)
          have j1 : ∀ x : Ext W, x.at.cell? ⟨w4.heap.size + 1, 1, none⟩ = some (.int .u64 (un (sum128 (pre M m) other).1)) := fun x => cell_of_row x.at _ 1 _ 38 (0, 0) (E2 x)
          have j2 : ∀ x : Ext W, x.at.cell? ⟨w4.heap.size + 1, 2, none⟩ = some (.int .u64 (un (sum128 (pre M m) other).1)) := fun x => cell_of_row x.at _ 2 _ 38 (0, 0) (E2 x)
          have j3 : ∀ x : Ext W, x.at.cell? ⟨w4.heap.size + 1, 3, none⟩ = some (.int .u64 (un (sum128 (pre M m) other).2)) := fun x => cell_of_row x.at _ 3 _ 38 (0, 0) (E2 x)
          have Bel2 := Lib.hid bel2
          clear bW g1 g2 zW bWr bel2 ownA ownB E1 E2 b4
          refine wp_region_ext (by kernel_rfl) (by kernel_rfl) ?_
          iterate 4 (go_big_quiet_step ((go_at_call 29; exact Calls.ext_of_below (told_any T mm cc (pre L n) seed _ (HxA.out _) Ha.out hleA.1 hleA.2))))
          refine wpQuiet_eql38 (by rfl) _ _ _ rfl _ _ _ _ _ _ _ _ rfl rfl (.bool true) (by simp) ?_
          simp only [Act.put, List.setIfInBounds_toArray, List.set_cons_succ, List.set_cons_zero]
          iterate 5 (go_big_quiet_step ((go_at_call 29; exact Calls.ext_of_below (told_any U ma ca (pre M m) other _ (HxB.out _) Hb.out hleB.1 hleB.2))))
          refine wpQuiet_eql38 (by rfl) _ _ _ rfl _ _ _ _ _ _ _ _ rfl rfl (.bool true) (by simp) ?_
          simp only [Act.put, List.setIfInBounds_toArray, List.set_cons_succ, List.set_cons_zero]
          repeat (go_big_quiet_step ((go_at_call 22; exact Calls.ext_of_below (works_any _))))
          refine wpQuiet_nil ?_
          rintro _ ⟨x, rfl⟩
          have hxb := Lib.hid x.below
          clear i0 i1 i2 i3 j0 j1 j2 j3
          go_wp2_with fail
          go_ret
          exact ⟨rfl, Bel2.out.trans (hxb.out.mono Bel2.out.size)⟩
end Go.Proofs.Ytfnejnoldonfeaa
