/-
  'over', 'back' and 'Forged32' of the reference.
  Conditions: each slice's bytes lie in memory as 'Bs' says.
-/
import Derived.Test.YtfnejnoldonfeaaS32
import Derived.Test.YtfnejnoldonfeaaForge
import Derived.Test.YtfnejnoldonfeaaApp
namespace Go.Proofs.Ytfnejnoldonfeaa
open Go.RowKit
theorem sx64_16 (x y : BitVec 64) : bits .xor .u64 (un x) (un y / 65536) = un (x ^^^ y >>> 16) := by
  have h := shr_un y 16
  simp only [Nat.reducePow] at h
  rw [show ((65536 : Nat) : Int) = 65536 from rfl] at h
  rw [h, bxor64]
theorem sx64_13 (x y : BitVec 64) : bits .xor .u64 (un x) (un y / 8192) = un (x ^^^ y >>> 13) := by
  have h := shr_un y 13
  simp only [Nat.reducePow] at h
  rw [show ((8192 : Nat) : Int) = 8192 from rfl] at h
  rw [h, bxor64]
theorem sx64_33 (x y : BitVec 64) : bits .xor .u64 (un x) (un y / 8589934592) = un (x ^^^ y >>> 33) := by
  have h := shr_un y 33
  simp only [Nat.reducePow] at h
  rw [show ((8589934592 : Nat) : Int) = 8589934592 from rfl] at h
  rw [h, bxor64]
attribute [local go_sem] sx64_16 sx64_13 sx64_33 wrsub64
theorem over_any (c : Int) (x : BitVec 64) (hc : un x = c) (w : World) : Calls Try.prog 42 #[.int .u64 c] w fun e w' => e = .returned (.int .u64 (un (ovk x 5))) ∧ w = w' := by
  subst hc
  go_enter Try.func42, Try.ntmps42
  go_wp2_with fail
  go_loop [3, 5] (fun y i => ∃ k : Nat, k ≤ 5 ∧ i = .int .i64 k ∧ y = .int .u64 (un (ovk x k))) (fun _ i => 5 - (intOf i).toNat)
  case atStart => exact ⟨0, by omega, rfl, rfl⟩
  case round =>
    obtain ⟨k, hk, rfl, rfl⟩ := hrel
    by_cases hlt : k < 5
    · go_wp2_with fail
      exact ⟨⟨k + 1, by omega, by go_num, rfl⟩, by simp [intOf]; omega⟩
    · go_wp2_with fail
      go_ret
      exact ⟨by rw [show k = 5 from by omega]; rfl, rfl⟩
theorem back16_any (x : BitVec 64) (w : World) : Calls Try.prog 41 #[.int .u64 (un x), .int .i64 16] w fun e w' => e = .returned (.int .u64 (un (backk x 16 4))) ∧ w = w' := by
  go_enter Try.func41, Try.ntmps41
  go_wp2_with fail
  go_loop [5, 9] (fun y i => ∃ k : Nat, k ≤ 4 ∧ i = .int .i64 k ∧ y = .int .u64 (un (backk x 16 k))) (fun _ i => 4 - (intOf i).toNat)
  case atStart => exact ⟨0, by omega, rfl, rfl⟩
  case round =>
    obtain ⟨k, hk, rfl, rfl⟩ := hrel
    by_cases hlt : k < 4
    · go_wp2_with fail
      exact ⟨⟨k + 1, by omega, by go_num, rfl⟩, by simp [intOf]; omega⟩
    · go_wp2_with fail
      go_ret
      exact ⟨by rw [show k = 4 from by omega]; rfl, rfl⟩
theorem back13_any (x : BitVec 64) (w : World) : Calls Try.prog 41 #[.int .u64 (un x), .int .i64 13] w fun e w' => e = .returned (.int .u64 (un (backk x 13 4))) ∧ w = w' := by
  go_enter Try.func41, Try.ntmps41
  go_wp2_with fail
  go_loop [5, 9] (fun y i => ∃ k : Nat, k ≤ 4 ∧ i = .int .i64 k ∧ y = .int .u64 (un (backk x 13 k))) (fun _ i => 4 - (intOf i).toNat)
  case atStart => exact ⟨0, by omega, rfl, rfl⟩
  case round =>
    obtain ⟨k, hk, rfl, rfl⟩ := hrel
    by_cases hlt : k < 4
    · go_wp2_with fail
      exact ⟨⟨k + 1, by omega, by go_num, rfl⟩, by simp [intOf]; omega⟩
    · go_wp2_with fail
      go_ret
      exact ⟨by rw [show k = 4 from by omega]; rfl, rfl⟩
theorem back33_any (x : BitVec 64) (w : World) : Calls Try.prog 41 #[.int .u64 (un x), .int .i64 33] w fun e w' => e = .returned (.int .u64 (un (backk x 33 1))) ∧ w = w' := by
  go_enter Try.func41, Try.ntmps41
  go_wp2_with fail
  go_loop [5, 9] (fun y i => ∃ k : Nat, k ≤ 1 ∧ i = .int .i64 k ∧ y = .int .u64 (un (backk x 33 k))) (fun _ i => 1 - (intOf i).toNat)
  case atStart => exact ⟨0, by omega, rfl, rfl⟩
  case round =>
    obtain ⟨k, hk, rfl, rfl⟩ := hrel
    by_cases hlt : k < 1
    · go_wp2_with fail
      exact ⟨⟨k + 1, by omega, by go_num, rfl⟩, by simp [intOf]; omega⟩
    · go_wp2_with fail
      go_ret
      exact ⟨by rw [show k = 1 from by omega]; rfl, rfl⟩
theorem byte32_0 (x : BitVec 32) : IntKind.u8.wrap (un x) = ((by8 x 0).toNat : Int) := by
  unfold un by8
  rw [IntKind.wrap_u8', UInt8.toNat_ofNat']
  simp only [Nat.reducePow]
  omega
theorem byte32_1 (x : BitVec 32) : IntKind.u8.wrap (un x / 256) = ((by8 x 1).toNat : Int) := by
  unfold un by8
  rw [IntKind.wrap_u8', UInt8.toNat_ofNat']
  simp only [Nat.reducePow]
  omega
theorem byte32_2 (x : BitVec 32) : IntKind.u8.wrap (un x / 65536) = ((by8 x 2).toNat : Int) := by
  unfold un by8
  rw [IntKind.wrap_u8', UInt8.toNat_ofNat']
  simp only [Nat.reducePow]
  omega
theorem byte32_3 (x : BitVec 32) : IntKind.u8.wrap (un x / 16777216) = ((by8 x 3).toNat : Int) := by
  unfold un by8
  rw [IntKind.wrap_u8', UInt8.toNat_ofNat']
  simp only [Nat.reducePow]
  omega
attribute [local go_sem] byte32_0 byte32_1 byte32_2 byte32_3
theorem Bs_four (w : World) (x y z t : UInt8) (n : Nat) (hn : w.heap.size = n) : Bs (w.alloc (.cells #[.int .u8 (x.toNat : Int), .int .u8 (y.toNat : Int), .int .u8 (z.toNat : Int), .int .u8 (t.toNat : Int)] 5)) (some ⟨n, 0, none⟩) [x, y, z, t] := by
  refine .inr ⟨_, _, rfl, fun i hi => ?_⟩
  subst hn
  show (match (w.heap.push _)[w.heap.size]? with | some (.cells c _ _) => c[0 + i]? | _ => none) = _
  have h4 : i = 0 ∨ i = 1 ∨ i = 2 ∨ i = 3 := by simp at hi; omega
  rcases h4 with rfl | rfl | rfl | rfl <;> simp
theorem forged32_any (a : Option Addr) (len cap : Nat) (l : List UInt8) (seed sum : BitVec 32) (w : World) (hb : Bs w a l) (hl : l.length = len) (hc : len ≤ cap) (hm : cap ≤ 9223372036854775807) (hlen : len ≤ 2147483647) :
   Calls Try.prog 20 #[.slice a len cap, .int .u32 (un seed), .int .u32 (un sum)] w fun e w' => ∃ A, e = .returned (.slice A 4 4) ∧ Bs w' A (by32 (forge32 (st32 l seed (len / 4)) sum len)) ∧ Below w.heap.size w w' := by
  have hw : IntKind.u32.wrap ((len : Int) + 4) = un (BitVec.ofNat 32 (len + 4)) := by
    rw [un_ofInt32, show (len : Int) + 4 = ((len + 4 : Nat) : Int) from by omega, BitVec.ofInt_natCast]
  have Hl := Lib.hid hl
  clear hl
  go_enter Try.func20, Try.ntmps20
  go_wp2_with fail
  refine (back16_any _ _).mono ?_
  rintro e w' ⟨rfl, rfl⟩
  go_wp2_with fail
  refine (over_any _ 3266489909#64 rfl _).mono ?_
  rintro e w' ⟨rfl, rfl⟩
  go_wp2_with fail
  refine (back13_any _ _).mono ?_
  rintro e w' ⟨rfl, rfl⟩
  go_wp2_with fail
  refine (over_any _ 2246822507#64 rfl _).mono ?_
  rintro e w' ⟨rfl, rfl⟩
  go_wp2_with fail
  refine (back16_any _ _).mono ?_
  rintro e w' ⟨rfl, rfl⟩
  go_wp2_with fail
  refine (over_any _ 5#64 rfl _).mono ?_
  rintro e w' ⟨rfl, rfl⟩
  go_wp2_with fail
  refine (turn19_any _ _).mono ?_
  rintro e w' ⟨rfl, n1, rfl⟩
  go_wp2_with fail
  refine (state32_any _ _ _ l _ _ (hb.drewN _) Hl.out hc hm).mono ?_
  rintro e w' ⟨rfl, n2, rfl⟩
  go_wp2_with fail
  refine (over_any _ 461845907#64 rfl _).mono ?_
  rintro e w' ⟨rfl, rfl⟩
  go_wp2_with fail
  refine (turn17_any _ _).mono ?_
  rintro e w' ⟨rfl, n3, rfl⟩
  go_wp2_with fail
  refine (over_any _ 3432918353#64 rfl _).mono ?_
  rintro e w' ⟨rfl, rfl⟩
  go_wp2_with fail
  go_ret
  refine ⟨_, rfl, Bs_four _ _ _ _ _ _ (by simp), (below_drewN (Below.refl _ _) _).alloc (by simp) _⟩
end Go.Proofs.Ytfnejnoldonfeaa
