/-
  The law FnAgain as a walk: it returns true.
  Conditions: the slices lie in memory, and are small together.
-/
import Derived.Test.YtfnejnoldonfeaaAga
import Derived.Test.YtfnejnoldonfeaaLaws7
import Derived.Test.YtfnejnoldonfeaaEqw
namespace Go.Proofs.Ytfnejnoldonfeaa
open Go.RowKit BigFrame
set_option maxRecDepth 100000 in
set_option maxHeartbeats 1600000 in
theorem fnAgain_any (seed : BitVec 32) (P : Option Addr) (n c : Nat) (L : List Sl) (Q : Option Addr) (m d : Nat) (M : List Sl) (w0 : World) (hL : Ls w0 P L) (sL : Sm L n) (hM : Ls w0 Q M) (sM : Sm M m) :
    Calls Try.prog 18 #[.int .u32 (un seed), .slice P n c, .slice Q m d] w0 fun e w' => e = .returned (.bool true) ∧ Below w0.heap.size w0 w' := by
  have HL := Lib.hid hL
  have SL := Lib.hid sL
  have HM := Lib.hid hM
  have SM := Lib.hid sM
  have hnn := sL.hnn
  have hmm := sM.hnn
  clear hL sL hM sM
  go_enter Try.func18, Try.ntmps18
  go_wp2_with fail
  refine (fits_any P n c L _ HL.out SL.out).mono ?_
  rintro e w1 ⟨rfl, rfl⟩
  go_wp2_with fail
  refine (fits_any Q m d M _ HM.out SM.out).mono ?_
  rintro e w ⟨rfl, rfl⟩
  go_wp2_with fail
  go_loopw [7, 20] (fun t i wr => ∃ (k mm cc : Nat) (T : Option Addr), k ≤ m ∧ i = .int .i64 k ∧ t = .slice T mm cc ∧ Own wr w.heap.size T mm cc (pre M k) ∧ Below w.heap.size w wr) (fun _ i _ => m - (intOf i).toNat)
  case atStart => exact ⟨0, 0, 0, none, Nat.zero_le _, rfl, rfl, Own.nil _ _, Below.refl _ _⟩
  case round =>
    obtain ⟨k, mm, cc, T, hk, rfl, rfl, hown, hbel⟩ := hrel
    have Hown := Lib.hid hown
    have Hbel := Lib.hid hbel
    clear hown hbel
    by_cases hlt : k < m
    · have hkL : k < M.length := by rw [SM.out.hn]; exact hlt
      have hpre := pre_succ M k hkL
      have hs := HM.out.2 _ (List.getElem_mem hkL)
      have hone := SM.out.one HM.out k hkL
      obtain ⟨b, off, rfl, hcw⟩ := HM.out.get Hbel.out k hkL
      generalize M[k] = sl at hpre hs hone hcw
      obtain ⟨sa, slen, scap, sll⟩ := sl
      have Hs := Lib.hid hs
      have Hpre := Lib.hid hpre
      have hroom : mm + slen ≤ 140737488355328 := by have hm : (pre M k).length = mm := Hown.out.1; have h1 : (pre M k).length + slen ≤ 1048576 := hone; omega
      have Bs2 := Lib.hid (Hs.out.bs.mem Hbel.out)
      clear hs hpre hone
      go_wp2_with (at_builtin; refine wpList_app _ rfl _ _ rfl w.heap.size T mm cc (pre M k) rfl Hown.out sa slen scap sll rfl Bs2.out Hs.out.hl hroom Hbel.out.size ?_; intro a3 cap3 w3 hown3 hg3 _)
      rw [← Hpre.out] at hown3
      refine ⟨⟨k + 1, mm + slen, cap3, a3, by omega, by go_num, rfl, hown3, Hbel.out.trans (own_grown Hown.out Hbel.out.size hg3)⟩, by simp [intOf]; omega⟩
    · have hkm : k = m := by omega
      subst hkm
      have hle := Hown.out.le
      go_wp2_with fail
      refine (again_any seed P n c L Q k d M wr (HL.out.mem Hbel.out) SL.out (HM.out.mem Hbel.out) SM.out).mono ?_
      rintro e w4 ⟨rfl, b4⟩
      unfold tv
      go_wp2_with fail
      refine (told_any T mm cc (pre M k) seed w4 (Hown.out.bs.mem b4) Hown.out.1 hle.1 hle.2).mono ?_
      rintro e w5 ⟨rfl, b5⟩
      have b05 := Hbel.out.trans ((b4.mono Hbel.out.size).trans (b5.mono (Nat.le_trans Hbel.out.size b4.size)))
      go_wp2_with (refine wpList_eql38 (by rfl) _ _ _ rfl _ _ _ _ _ _ _ _ rfl rfl ?_)
      refine (works_any _).mono ?_
      rintro e w' ⟨rfl, hw⟩
      go_wp2_with fail
      go_ret
      exact ⟨rfl, b05.trans (hw.mono b05.size)⟩
end Go.Proofs.Ytfnejnoldonfeaa
