/-
  The law FnSummed as a walk: it returns true.
  Conditions: the slices lie in memory, and are small together.
-/
import Derived.Test.YtfnejnoldonfeaaSmd
import Derived.Test.YtfnejnoldonfeaaLaws7
import Derived.Test.YtfnejnoldonfeaaEqw
namespace Go.Proofs.Ytfnejnoldonfeaa
open Go.RowKit BigFrame
set_option maxRecDepth 100000 in
set_option maxHeartbeats 1600000 in
theorem fnSummed_any (seed : BitVec 32) (P : Option Addr) (n c : Nat) (L : List Sl) (w0 : World) (hL : Ls w0 P L) (sL : Sm L n) :
    Calls Try.prog 19 #[.int .u32 (un seed), .slice P n c] w0 fun e w' => e = .returned (.bool true) ∧ Below w0.heap.size w0 w' := by
  have HL := Lib.hid hL
  have SL := Lib.hid sL
  have hnn := sL.hnn
  clear hL sL
  go_enter Try.func19, Try.ntmps19
  go_wp2_with fail
  refine (fits_any P n c L _ HL.out SL.out).mono ?_
  rintro e w ⟨rfl, rfl⟩
  go_wp2_with fail
  go_loopw [5, 15] (fun t i wr => ∃ (k mm cc : Nat) (T : Option Addr), k ≤ n ∧ i = .int .i64 k ∧ t = .slice T mm cc ∧ Own wr w.heap.size T mm cc (pre L k) ∧ Below w.heap.size w wr) (fun _ i _ => n - (intOf i).toNat)
  case atStart => exact ⟨0, 0, 0, none, Nat.zero_le _, rfl, rfl, Own.nil _ _, Below.refl _ _⟩
  case round =>
    obtain ⟨k, mm, cc, T, hk, rfl, rfl, hown, hbel⟩ := hrel
    have Hown := Lib.hid hown
    have Hbel := Lib.hid hbel
    clear hown hbel
    by_cases hlt : k < n
    · have hkL : k < L.length := by rw [SL.out.hn]; exact hlt
      have hpre := pre_succ L k hkL
      have hs := HL.out.2 _ (List.getElem_mem hkL)
      have hone := SL.out.one HL.out k hkL
      obtain ⟨b, off, rfl, hcw⟩ := HL.out.get Hbel.out k hkL
      generalize L[k] = sl at hpre hs hone hcw
      obtain ⟨sa, slen, scap, sll⟩ := sl
      have Hs := Lib.hid hs
      have Hpre := Lib.hid hpre
      have hroom : mm + slen ≤ 140737488355328 := by have hm : (pre L k).length = mm := Hown.out.1; have h1 : (pre L k).length + slen ≤ 1048576 := hone; omega
      have Bs2 := Lib.hid (Hs.out.bs.mem Hbel.out)
      clear hs hpre hone
      go_wp2_with (at_builtin; refine wpList_app _ rfl _ _ rfl w.heap.size T mm cc (pre L k) rfl Hown.out sa slen scap sll rfl Bs2.out Hs.out.hl hroom Hbel.out.size ?_; intro a3 cap3 w3 hown3 hg3 _)
      rw [← Hpre.out] at hown3
      refine ⟨⟨k + 1, mm + slen, cap3, a3, by omega, by go_num, rfl, hown3, Hbel.out.trans (own_grown Hown.out Hbel.out.size hg3)⟩, by simp [intOf]; omega⟩
    · have hkm : k = n := by omega
      subst hkm
      have hle := Hown.out.le
      go_wp2_with fail
      refine (summed_any seed P k c L wr (HL.out.mem Hbel.out) SL.out).mono ?_
      rintro e w4 ⟨rfl, b4⟩
      unfold tv sums4
      go_wp2_with fail
      have g2 := heap_alloc_new w4 (.cells #[.int .u32 (un (sum32 (pre L k) seed)), .int .u64 (un (sum128 (pre L k) seed).1), .int .u64 (un (sum128 (pre L k) seed).1), .int .u64 (un (sum128 (pre L k) seed).2)] 38)
      have b2 : Below w4.heap.size w4 (w4.alloc (.cells #[.int .u32 (un (sum32 (pre L k) seed)), .int .u64 (un (sum128 (pre L k) seed).1), .int .u64 (un (sum128 (pre L k) seed).1), .int .u64 (un (sum128 (pre L k) seed).2)] 38)) := (Below.refl _ _).alloc (Nat.le_refl _) _
      have z2 : (w4.alloc (.cells #[.int .u32 (un (sum32 (pre L k) seed)), .int .u64 (un (sum128 (pre L k) seed).1), .int .u64 (un (sum128 (pre L k) seed).1), .int .u64 (un (sum128 (pre L k) seed).2)] 38)).heap.size = w4.heap.size + 1 := by simp
      generalize w4.alloc (.cells #[.int .u32 (un (sum32 (pre L k) seed)), .int .u64 (un (sum128 (pre L k) seed).1), .int .u64 (un (sum128 (pre L k) seed).1), .int .u64 (un (sum128 (pre L k) seed).2)] 38) = w2 at g2 b2 z2 ⊢
      have own2 : Own w2 w.heap.size T mm cc (pre L k) := (Hown.out.below b4).below b2
      have bel2 : Below w.heap.size w w2 := Hbel.out.trans ((b4.mono Hbel.out.size).trans (b2.mono (Nat.le_trans Hbel.out.size b4.size)))
      have Hl := Lib.hid own2.1
      have Hbx := Lib.hid (show ∀ x : Ext w2, Bs x.at T (pre L k) from fun x => own2.bs.mem x.below)
      have G2 : ∀ x : Ext w2, x.at.heap[w4.heap.size]? = _ := fun x => (x.below.block _ (by omega)).trans g2
      have j0 : ∀ x : Ext w2, x.at.cell? ⟨w4.heap.size, 0, none⟩ = some (.int .u32 (un (sum32 (pre L k) seed))) := fun x => cell_of_row x.at _ 0 _ 38 (0, 0) (G2 x)
      have j1 : ∀ x : Ext w2, x.at.cell? ⟨w4.heap.size, 1, none⟩ = some (.int .u64 (un (sum128 (pre L k) seed).1)) := fun x => cell_of_row x.at _ 1 _ 38 (0, 0) (G2 x)
      have j2 : ∀ x : Ext w2, x.at.cell? ⟨w4.heap.size, 2, none⟩ = some (.int .u64 (un (sum128 (pre L k) seed).1)) := fun x => cell_of_row x.at _ 2 _ 38 (0, 0) (G2 x)
      have j3 : ∀ x : Ext w2, x.at.cell? ⟨w4.heap.size, 3, none⟩ = some (.int .u64 (un (sum128 (pre L k) seed).2)) := fun x => cell_of_row x.at _ 3 _ 38 (0, 0) (G2 x)
      have Bel2 := Lib.hid bel2
      clear own2 bel2 G2 g2 b2 z2 b4
      refine wp_region_ext (by kernel_rfl) (by kernel_rfl) ?_
      iterate 6 (go_big_quiet_step ((go_at_call 29; exact Calls.ext_of_below (told_any T mm cc (pre L k) seed _ (Hbx.out _) Hl.out hle.1 hle.2))))
      refine wpQuiet_eql38 (by rfl) _ _ _ rfl _ _ _ _ _ _ _ _ rfl rfl (.bool true) (by simp) ?_
      simp only [Act.put, List.setIfInBounds_toArray, List.set_cons_succ, List.set_cons_zero]
      repeat (go_big_quiet_step ((go_at_call 22; exact Calls.ext_of_below (works_any _))))
      refine wpQuiet_nil ?_
      rintro _ ⟨x, rfl⟩
      have hxb := Lib.hid x.below
      clear j0 j1 j2 j3
      go_wp2_with fail
      go_ret
      exact ⟨rfl, Bel2.out.trans (hxb.out.mono Bel2.out.size)⟩
end Go.Proofs.Ytfnejnoldonfeaa
