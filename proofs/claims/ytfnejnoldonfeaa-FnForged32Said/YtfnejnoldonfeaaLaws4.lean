/-
  The law FnForged32 as a walk: it returns true.
  Conditions: each slice's bytes lie in memory as 'Bs' says.
-/
import Derived.Test.YtfnejnoldonfeaaForgeW
namespace Go.Proofs.Ytfnejnoldonfeaa
open Go.RowKit
set_option maxRecDepth 100000 in
theorem fnForged32_any (a : Option Addr) (len cap : Nat) (l : List UInt8) (seed sum : BitVec 32) (w : World) (hb : Bs w a l) (hl : l.length = len) (hc : len ≤ cap) (hm : cap ≤ 9223372036854775807) :
   Calls Try.prog 3 #[.slice a len cap, .int .u32 (un seed), .int .u32 (un sum)] w fun e w' => e = .returned (.bool true) ∧ Below w.heap.size w w' := by
  have Hl := Lib.hid hl
  clear hl
  by_cases hbig : 2147483647 < len
  · go_enter Try.func3, Try.ntmps3
    go_wp2_with fail
    go_ret
    exact ⟨rfl, Below.refl _ _⟩
  · have hs : ∀ W, (Instr.slice 22 (.slice a len cap) none (some (.int .i64 ((len : Int) / 4 * 4))) none).run Try.prog W = .ok (.slice a (4 * (len / 4)) cap) W := fun W => by
      have h := slice_to a len cap (4 * (len / 4)) W (by omega)
      rw [show (((4 * (len / 4) : Nat)) : Int) = (len : Int) / 4 * 4 from by omega] at h; exact h
    have hT : (l.take (4 * (len / 4))).length = 4 * (len / 4) := by rw [List.length_take, Hl.out]; omega
    have HT := Lib.hid hT
    have hbT := hb.take (4 * (len / 4))
    have hqc : 4 * (len / 4) ≤ cap := by omega
    have hqm : 4 * (len / 4) ≤ 2147483647 := by omega
    have HQ := Lib.hid (show 4 * (len / 4) / 4 = len / 4 by omega)
    clear hT hb
    generalize l.take (4 * (len / 4)) = t at *
    go_enter Try.func3, Try.ntmps3
    go_wp2_with (at_builtin; refine wpList_app _ rfl _ _ rfl w.heap.size none 0 0 [] rfl (Own.nil w _) a (4 * (len / 4)) cap t rfl hbT HT.out (by omega) (Nat.le_refl _) ?_; intro a1 cap1 w1 hown1 hg1 _)
    have hb1 : Below w.heap.size w w1 := own_grown (Own.nil w _) (Nat.le_refl _) hg1
    refine (forged32_any a (4 * (len / 4)) cap t seed sum _ (hbT.mem hb1) HT.out hqc hm hqm).mono ?_
    rintro e w2 ⟨A, rfl, hA, hb2⟩
    simp only [Nat.zero_add, List.nil_append] at hown1 ⊢
    clear hg1
    go_wp2_with (at_builtin; refine wpList_app _ rfl _ _ rfl w.heap.size a1 (4 * (len / 4)) cap1 t rfl (hown1.below hb2) A 4 4 _ rfl hA rfl (by omega) (Nat.le_trans hb1.size hb2.size) ?_; intro a2 cap2 w3 hown2 hg2 _)
    have hb3 : Below w.heap.size w w3 := (hb1.trans (hb2.mono hb1.size)).trans (own_grown (hown1.below hb2) (Nat.le_trans hb1.size hb2.size) hg2)
    have hle := hown2.le
    have hsum := sum32_forge t seed sum (len / 4) HT.out
    rw [HT.out] at hsum
    rw [HQ.out] at hown2
    have h5 : (un (sum32 (t ++ by32 (forge32 (st32 t seed (len / 4)) sum (4 * (len / 4)))) seed) == un sum) = true := by rw [hsum]; simp
    clear hsum hg2
    refine (impl32_any _ _ _ _ _ _ hown2.bs hown2.1 hle.1 hle.2).mono ?_
    rintro e w' ⟨rfl, n1, rfl⟩
    go_wp2_with fail
    refine (works_any _).mono ?_
    rintro e w' ⟨rfl, hw⟩
    go_wp2_with fail
    go_ret
    exact ⟨rfl, hb3.trans ((below_drewN (Below.refl _ _) _).trans (hw.mono (by simpa using hb3.size)))⟩
end Go.Proofs.Ytfnejnoldonfeaa
