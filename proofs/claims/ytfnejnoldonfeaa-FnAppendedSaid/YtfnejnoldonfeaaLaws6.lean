/-
  'unblend', 'eight' and 'Forged128' of the reference; the law FnForged128 as a walk.
  Conditions: each slice's bytes lie in memory as 'Bs' says.
-/
import Derived.Test.YtfnejnoldonfeaaForgeW
import Derived.Test.YtfnejnoldonfeaaS128
import Derived.Test.YtfnejnoldonfeaaI128
namespace Go.Proofs.Ytfnejnoldonfeaa
open Go.RowKit
theorem unblend_any (x : BitVec 64) (w : World) : Calls Try.prog 50 #[.int .u64 (un x)] w fun e w' => e = .returned (.int .u64 (un (unblend x))) ∧ w = w' := by
  go_enter Try.func50, Try.ntmps50
  go_wp2_with fail
  refine (back33_any _ _).mono ?_
  rintro e w' ⟨rfl, rfl⟩
  go_wp2_with fail
  refine (over_any _ 14181476777654086739#64 rfl _).mono ?_
  rintro e w' ⟨rfl, rfl⟩
  go_wp2_with fail
  refine (back33_any _ _).mono ?_
  rintro e w' ⟨rfl, rfl⟩
  go_wp2_with fail
  refine (over_any _ 18397679294719823053#64 rfl _).mono ?_
  rintro e w' ⟨rfl, rfl⟩
  go_wp2_with fail
  refine (back33_any _ _).mono ?_
  rintro e w' ⟨rfl, rfl⟩
  go_wp2_with fail
  go_ret
  exact ⟨rfl, rfl⟩
theorem byte64 (x : BitVec 64) (k : Nat) : IntKind.u8.wrap (un x / 2 ^ (8 * k)) = ((by8 x k).toNat : Int) := by
  unfold un by8
  rw [IntKind.wrap_u8', UInt8.toNat_ofNat', show (256 : Nat) ^ k = 2 ^ (8 * k) from by rw [Nat.pow_mul]]
  simp
theorem by64_take (x : BitVec 64) (k : Nat) (hk : k < 8) : (by64 x).take (k + 1) = (by64 x).take k ++ [by8 x k] := by
  have h : k = 0 ∨ k = 1 ∨ k = 2 ∨ k = 3 ∨ k = 4 ∨ k = 5 ∨ k = 6 ∨ k = 7 := by omega
  rcases h with rfl | rfl | rfl | rfl | rfl | rfl | rfl | rfl <;> rfl
set_option maxRecDepth 100000 in
theorem eight_any (x : BitVec 64) (w : World) : Calls Try.prog 53 #[.int .u64 (un x)] w fun e w' =>
    ∃ A c, e = .returned (.slice A 8 c) ∧ Own w' w.heap.size A 8 c (by64 x) ∧ Below w.heap.size w w' := by
  go_enter Try.func53, Try.ntmps53
  go_wp2_with fail
  go_loopw [3, 5] (fun s i wr => ∃ (k : Nat) (A : Option Addr) (c : Nat), k ≤ 8 ∧ i = .int .i64 k ∧ s = .slice A k c ∧ Own wr w.heap.size A k c ((by64 x).take k) ∧ Below w.heap.size w wr) (fun _ i _ => 8 - (intOf i).toNat)
  case atStart => exact ⟨0, none, 0, by omega, rfl, rfl, Own.nil _ _, Below.refl _ _⟩
  case round =>
    obtain ⟨k, A, c, hk, rfl, rfl, hown, hbel⟩ := hrel
    by_cases hlt : k < 8
    · have hbv := byte64 x k
      have Hown := Lib.hid hown
      have Hbel := Lib.hid hbel
      clear hown hbel
      go_wp2_with (at_builtin; refine wpList_app _ rfl _ _ rfl w.heap.size A k c _ rfl (Hown.out.below ((Below.refl _ _).alloc (Nat.le_refl _) _)) _ 1 1 [by8 x k] rfl (Bs_one wr (by8 x k) _ rfl) rfl (by omega) (Nat.le_trans Hbel.out.size (by simp)) ?_; intro a2 c2 w2 hown2 hg2 _)
      refine ⟨⟨k + 1, a2, c2, by omega, by go_num, rfl, by rw [by64_take x k hlt]; exact hown2, ?_⟩, by simp [intOf]; omega⟩
      exact (Hbel.out.alloc Hbel.out.size _).trans (own_grown (Hown.out.below ((Below.refl _ _).alloc (Nat.le_refl _) _)) (Nat.le_trans Hbel.out.size (by simp)) hg2)
    · go_wp2_with fail
      go_ret
      have hk8 : k = 8 := by omega
      subst hk8
      exact ⟨A, c, rfl, hown, hbel⟩
theorem Own.mono {w w' : World} {base len cap B : Nat} {a : Option Addr} {l : List UInt8} (h : Own w base a len cap l) (hb : Below B w w') (hB : w.heap.size ≤ B) : Own w' base a len cap l := h.below (hb.mono hB)
set_option maxRecDepth 100000 in
set_option maxHeartbeats 800000 in
theorem forged128_any (a : Option Addr) (len cap : Nat) (l : List UInt8) (seed : BitVec 32) (s1 s2 : BitVec 64) (w : World) (hb : Bs w a l) (hl : l.length = len) (hc : len ≤ cap) (hm : cap ≤ 9223372036854775807) (hlen : len ≤ 2147483647) :
   Calls Try.prog 26 #[.slice a len cap, .int .u32 (un seed), .int .u64 (un s1), .int .u64 (un s2)] w fun e w' =>
     ∃ A c, e = .returned (.slice A 16 c) ∧ Own w' w.heap.size A 16 c (forge128 (st128 l (pair seed) (len / 16)) s1 s2 len) ∧ Below w.heap.size w w' := by
  have hw : IntKind.u64.wrap ((len : Int) + 16) = un (BitVec.ofNat 64 (len + 16)) := by
    rw [un_ofInt64, show (len : Int) + 16 = ((len + 16 : Nat) : Int) from by omega, BitVec.ofInt_natCast]
  have Hl := Lib.hid hl
  clear hl
  go_enter Try.func26, Try.ntmps26
  go_wp2_with fail
  refine (unblend_any _ _).mono ?_
  rintro e w' ⟨rfl, rfl⟩
  go_wp2_with fail
  refine (unblend_any _ _).mono ?_
  rintro e w' ⟨rfl, rfl⟩
  go_wp2_with fail
  refine (state128_any _ _ _ l _ _ hb Hl.out hc hm).mono ?_
  rintro e w' ⟨rfl, n1, rfl⟩
  generalize hS : st128 l (pair seed) (len / 16) = S
  have HS := Lib.hid hS
  clear hS
  go_wp2_with fail
  refine (over_any _ 5#64 rfl _).mono ?_
  rintro e w' ⟨rfl, rfl⟩
  go_wp2_with fail
  refine (wind33_any _ _).mono ?_
  rintro e w' ⟨rfl, n2, rfl⟩
  go_wp2_with fail
  refine (over_any _ 5#64 rfl _).mono ?_
  rintro e w' ⟨rfl, rfl⟩
  go_wp2_with fail
  refine (wind37_any _ _).mono ?_
  rintro e w' ⟨rfl, n3, rfl⟩
  go_wp2_with fail
  refine (over_any _ 5545529020109919103#64 rfl _).mono ?_
  rintro e w' ⟨rfl, rfl⟩
  go_wp2_with fail
  refine (wind33_any _ _).mono ?_
  rintro e w' ⟨rfl, n4, rfl⟩
  go_wp2_with fail
  refine (over_any _ 9782798678568883157#64 rfl _).mono ?_
  rintro e w' ⟨rfl, rfl⟩
  go_wp2_with fail
  refine (over_any _ 9782798678568883157#64 rfl _).mono ?_
  rintro e w' ⟨rfl, rfl⟩
  go_wp2_with fail
  refine (wind31_any _ _).mono ?_
  rintro e w' ⟨rfl, n5, rfl⟩
  go_wp2_with fail
  refine (over_any _ 5545529020109919103#64 rfl _).mono ?_
  rintro e w' ⟨rfl, rfl⟩
  go_wp2_with fail
  refine (eight_any _ _).mono ?_
  rintro e w1 ⟨A1, c1, rfl, hown1, hb1⟩
  have hb1 := (below_drewN (Below.refl w.heap.size w) _).trans hb1
  go_wp2_with fail
  refine (eight_any _ _).mono ?_
  rintro e w2 ⟨A2, c2, rfl, hown2, hb2⟩
  have hb12 := hb1.trans (hb2.mono hb1.size)
  have hown1 := hown1.below hb2
  go_wp2_with (at_builtin; refine wpList_app _ rfl _ _ rfl w.heap.size A1 8 c1 _ rfl hown1 A2 8 c2 _ rfl hown2.bs hown2.1 (by omega) hb12.size ?_; intro a3 c3 w3 hown3 hg3 _)
  go_ret
  refine ⟨a3, c3, rfl, ?_, hb12.trans (own_grown hown1 hb12.size hg3)⟩
  rw [HS.out]
  simp only [forge128, forgeK1, forgeK2, forgeH1, forgeH2, undoA, undoB]
  exact hown3
set_option maxRecDepth 100000 in
theorem fnForged128_any (a : Option Addr) (len cap : Nat) (l : List UInt8) (seed : BitVec 32) (s1 s2 : BitVec 64) (w : World) (hb : Bs w a l) (hl : l.length = len) (hc : len ≤ cap) (hm : cap ≤ 9223372036854775807) :
   Calls Try.prog 8 #[.slice a len cap, .int .u32 (un seed), .int .u64 (un s1), .int .u64 (un s2)] w fun e w' => e = .returned (.bool true) ∧ Below w.heap.size w w' := by
  have Hl := Lib.hid hl
  clear hl
  by_cases hbig : 2147483647 < len
  · go_enter Try.func8, Try.ntmps8
    go_wp2_with fail
    go_ret
    exact ⟨rfl, Below.refl _ _⟩
  · have hs : ∀ W, (Instr.slice 22 (.slice a len cap) none (some (.int .i64 ((len : Int) / 16 * 16))) none).run Try.prog W = .ok (.slice a (16 * (len / 16)) cap) W := fun W => by
      have h := slice_to a len cap (16 * (len / 16)) W (by omega)
      rw [show (((16 * (len / 16) : Nat)) : Int) = (len : Int) / 16 * 16 from by omega] at h; exact h
    have hT : (l.take (16 * (len / 16))).length = 16 * (len / 16) := by rw [List.length_take, Hl.out]; omega
    have HT := Lib.hid hT
    have hbT := hb.take (16 * (len / 16))
    have hqc : 16 * (len / 16) ≤ cap := by omega
    have hqm : 16 * (len / 16) ≤ 2147483647 := by omega
    have HQ := Lib.hid (show 16 * (len / 16) / 16 = len / 16 by omega)
    clear hT hb
    generalize l.take (16 * (len / 16)) = t at *
    go_enter Try.func8, Try.ntmps8
    go_wp2_with (at_builtin; refine wpList_app _ rfl _ _ rfl w.heap.size none 0 0 [] rfl (Own.nil w _) a (16 * (len / 16)) cap t rfl hbT HT.out (by omega) (Nat.le_refl _) ?_; intro a1 cap1 w1 hown1 hg1 _)
    have hb1 : Below w.heap.size w w1 := own_grown (Own.nil w _) (Nat.le_refl _) hg1
    refine (forged128_any a (16 * (len / 16)) cap t seed s1 s2 _ (hbT.mem hb1) HT.out hqc hm hqm).mono ?_
    rintro e w2 ⟨A, c, rfl, hA, hb2⟩
    simp only [Nat.zero_add, List.nil_append] at hown1 ⊢
    clear hg1
    go_wp2_with (at_builtin; refine wpList_app _ rfl _ _ rfl w.heap.size a1 (16 * (len / 16)) cap1 t rfl (hown1.below hb2) A 16 c _ rfl hA.bs hA.1 (by omega) (Nat.le_trans hb1.size hb2.size) ?_; intro a2 cap2 w3 hown2 hg2 _)
    have hb3 : Below w.heap.size w w3 := (hb1.trans (hb2.mono hb1.size)).trans (own_grown (hown1.below hb2) (Nat.le_trans hb1.size hb2.size) hg2)
    have hle := hown2.le
    have hsum := sum128_forge t seed s1 s2 (len / 16) HT.out
    rw [HT.out] at hsum
    rw [HQ.out] at hown2
    have h5 : (un (sum128 (t ++ forge128 (st128 t (pair seed) (len / 16)) s1 s2 (16 * (len / 16))) seed).1 == un s1) = true := by rw [hsum]; simp
    have h6 : (un (sum128 (t ++ forge128 (st128 t (pair seed) (len / 16)) s1 s2 (16 * (len / 16))) seed).2 == un s2) = true := by rw [hsum]; simp
    clear hsum hg2
    refine (impl128_any _ _ _ _ _ _ hown2.bs hown2.1 hle.1 hle.2).mono ?_
    rintro e w4 ⟨rfl, hb4⟩
    go_wp2_with fail
    refine (works_any _).mono ?_
    rintro e w' ⟨rfl, hw⟩
    go_wp2_with fail
    go_ret
    exact ⟨rfl, (hb3.trans (hb4.mono hb3.size)).trans (hw.mono (Nat.le_trans hb3.size hb4.size))⟩
end Go.Proofs.Ytfnejnoldonfeaa
