/-
  What digest128.Sum128 returns, at each number of pending bytes (seven to eleven).
  Conditions: the digest's fields lie in memory as said.
-/
import Derived.Test.YtfnejnoldonfeaaD128H
namespace Go.Proofs.Ytfnejnoldonfeaa
open Go.RowKit
set_option maxRecDepth 100000 in
set_option maxHeartbeats 800000 in
theorem sum128_at7 (g clen : Nat) (b off : Nat) (tc : Nat) (h1 h2 : BitVec 64) (x0 x1 x2 x3 x4 x5 x6 : UInt8) (w : World) (c0 : w.cell? ⟨g, 0, none⟩ = some (.int .i64 (clen : Int))) (c1 : w.cell? ⟨g, 1, none⟩ = some (.slice (some ⟨b, off, none⟩) 7 tc))
    (c20 : w.cell? ⟨g, 20, none⟩ = some (.int .u64 (un h1))) (c21 : w.cell? ⟨g, 21, none⟩ = some (.int .u64 (un h2))) (y0 : w.cell? ⟨b, off, none⟩ = some (.int .u8 (x0.toNat : Int))) (y1 : w.cell? ⟨b, off + 1, none⟩ = some (.int .u8 (x1.toNat : Int))) (y2 : w.cell? ⟨b, off + 2, none⟩ = some (.int .u8 (x2.toNat : Int))) (y3 : w.cell? ⟨b, off + 3, none⟩ = some (.int .u8 (x3.toNat : Int))) (y4 : w.cell? ⟨b, off + 4, none⟩ = some (.int .u8 (x4.toNat : Int))) (y5 : w.cell? ⟨b, off + 5, none⟩ = some (.int .u8 (x5.toNat : Int))) (y6 : w.cell? ⟨b, off + 6, none⟩ = some (.int .u8 (x6.toNat : Int))) :
   Calls Try.prog 71 #[.pointer (some ⟨g, 0, none⟩)] w fun e w' => e = .returned (.tuple #[.int .u64 (un (fin128 (h1, h2) [x0, x1, x2, x3, x4, x5, x6] clen).1), .int .u64 (un (fin128 (h1, h2) [x0, x1, x2, x3, x4, x5, x6] clen).2)]) ∧ ∃ n, w' = w.drewN n := by
  have hw : IntKind.u64.wrap (clen : Int) = un (BitVec.ofNat 64 clen) := by rw [un_ofInt64, BitVec.ofInt_natCast]
  have ea : bits .and .i64 7 15 = 7 := by decide
  go_enter Try.func71, Try.ntmps71
  go_wp2_with fail
  go_quiet (fail)
  go_upto_region 12 with (fail)
  iterate 14 (first | refine out_then ?_ | refine out_block rfl ?_ | refine in_block ?_ | go_step)
  repeat (first | refine out_then ?_ | refine out_block rfl ?_ | refine in_block ?_)
  go_wp2_with fail
  refine (fmix64_any _ _).mono ?_
  rintro e w' ⟨rfl, rfl⟩
  go_wp2_with fail
  refine (fmix64_any _ _).mono ?_
  rintro e w' ⟨rfl, rfl⟩
  go_wp2_with fail
  go_ret2
  refine ⟨?_, _, rfl⟩
  rw [fin128, show [x0, x1, x2, x3, x4, x5, x6].drop 8 = [] from rfl, le8_7, le8_nil, second0, BitVec.xor_zero]; rfl
set_option maxRecDepth 100000 in
set_option maxHeartbeats 800000 in
theorem sum128_at8 (g clen : Nat) (b off : Nat) (tc : Nat) (h1 h2 : BitVec 64) (x0 x1 x2 x3 x4 x5 x6 x7 : UInt8) (w : World) (c0 : w.cell? ⟨g, 0, none⟩ = some (.int .i64 (clen : Int))) (c1 : w.cell? ⟨g, 1, none⟩ = some (.slice (some ⟨b, off, none⟩) 8 tc))
    (c20 : w.cell? ⟨g, 20, none⟩ = some (.int .u64 (un h1))) (c21 : w.cell? ⟨g, 21, none⟩ = some (.int .u64 (un h2))) (y0 : w.cell? ⟨b, off, none⟩ = some (.int .u8 (x0.toNat : Int))) (y1 : w.cell? ⟨b, off + 1, none⟩ = some (.int .u8 (x1.toNat : Int))) (y2 : w.cell? ⟨b, off + 2, none⟩ = some (.int .u8 (x2.toNat : Int))) (y3 : w.cell? ⟨b, off + 3, none⟩ = some (.int .u8 (x3.toNat : Int))) (y4 : w.cell? ⟨b, off + 4, none⟩ = some (.int .u8 (x4.toNat : Int))) (y5 : w.cell? ⟨b, off + 5, none⟩ = some (.int .u8 (x5.toNat : Int))) (y6 : w.cell? ⟨b, off + 6, none⟩ = some (.int .u8 (x6.toNat : Int))) (y7 : w.cell? ⟨b, off + 7, none⟩ = some (.int .u8 (x7.toNat : Int))) :
   Calls Try.prog 71 #[.pointer (some ⟨g, 0, none⟩)] w fun e w' => e = .returned (.tuple #[.int .u64 (un (fin128 (h1, h2) [x0, x1, x2, x3, x4, x5, x6, x7] clen).1), .int .u64 (un (fin128 (h1, h2) [x0, x1, x2, x3, x4, x5, x6, x7] clen).2)]) ∧ ∃ n, w' = w.drewN n := by
  have hw : IntKind.u64.wrap (clen : Int) = un (BitVec.ofNat 64 clen) := by rw [un_ofInt64, BitVec.ofInt_natCast]
  have ea : bits .and .i64 8 15 = 8 := by decide
  go_enter Try.func71, Try.ntmps71
  go_wp2_with fail
  go_quiet (fail)
  go_upto_region 11 with (fail)
  iterate 14 (first | refine out_then ?_ | refine out_block rfl ?_ | refine in_block ?_ | go_step)
  repeat (first | refine out_then ?_ | refine out_block rfl ?_ | refine in_block ?_)
  go_wp2_with fail
  refine (fmix64_any _ _).mono ?_
  rintro e w' ⟨rfl, rfl⟩
  go_wp2_with fail
  refine (fmix64_any _ _).mono ?_
  rintro e w' ⟨rfl, rfl⟩
  go_wp2_with fail
  go_ret2
  refine ⟨?_, _, rfl⟩
  rw [fin128, show [x0, x1, x2, x3, x4, x5, x6, x7].drop 8 = [] from rfl, le8_8, le8_nil, second0, BitVec.xor_zero]; rfl
set_option maxRecDepth 100000 in
set_option maxHeartbeats 800000 in
theorem sum128_at9 (g clen : Nat) (b off : Nat) (tc : Nat) (h1 h2 : BitVec 64) (x0 x1 x2 x3 x4 x5 x6 x7 x8 : UInt8) (w : World) (c0 : w.cell? ⟨g, 0, none⟩ = some (.int .i64 (clen : Int))) (c1 : w.cell? ⟨g, 1, none⟩ = some (.slice (some ⟨b, off, none⟩) 9 tc))
    (c20 : w.cell? ⟨g, 20, none⟩ = some (.int .u64 (un h1))) (c21 : w.cell? ⟨g, 21, none⟩ = some (.int .u64 (un h2))) (y0 : w.cell? ⟨b, off, none⟩ = some (.int .u8 (x0.toNat : Int))) (y1 : w.cell? ⟨b, off + 1, none⟩ = some (.int .u8 (x1.toNat : Int))) (y2 : w.cell? ⟨b, off + 2, none⟩ = some (.int .u8 (x2.toNat : Int))) (y3 : w.cell? ⟨b, off + 3, none⟩ = some (.int .u8 (x3.toNat : Int))) (y4 : w.cell? ⟨b, off + 4, none⟩ = some (.int .u8 (x4.toNat : Int))) (y5 : w.cell? ⟨b, off + 5, none⟩ = some (.int .u8 (x5.toNat : Int))) (y6 : w.cell? ⟨b, off + 6, none⟩ = some (.int .u8 (x6.toNat : Int))) (y7 : w.cell? ⟨b, off + 7, none⟩ = some (.int .u8 (x7.toNat : Int))) (y8 : w.cell? ⟨b, off + 8, none⟩ = some (.int .u8 (x8.toNat : Int))) :
   Calls Try.prog 71 #[.pointer (some ⟨g, 0, none⟩)] w fun e w' => e = .returned (.tuple #[.int .u64 (un (fin128 (h1, h2) [x0, x1, x2, x3, x4, x5, x6, x7, x8] clen).1), .int .u64 (un (fin128 (h1, h2) [x0, x1, x2, x3, x4, x5, x6, x7, x8] clen).2)]) ∧ ∃ n, w' = w.drewN n := by
  have hw : IntKind.u64.wrap (clen : Int) = un (BitVec.ofNat 64 clen) := by rw [un_ofInt64, BitVec.ofInt_natCast]
  have ea : bits .and .i64 9 15 = 9 := by decide
  go_enter Try.func71, Try.ntmps71
  go_wp2_with fail
  go_quiet (fail)
  go_upto_region 10 with (fail)
  iterate 14 (first | refine out_then ?_ | refine out_block rfl ?_ | refine in_block ?_ | go_step)
  repeat (first | refine out_then ?_ | refine out_block rfl ?_ | refine in_block ?_)
  go_wp2_with fail
  refine (fmix64_any _ _).mono ?_
  rintro e w' ⟨rfl, rfl⟩
  go_wp2_with fail
  refine (fmix64_any _ _).mono ?_
  rintro e w' ⟨rfl, rfl⟩
  go_wp2_with fail
  go_ret2
  refine ⟨?_, _, rfl⟩
  rw [fin128, show [x0, x1, x2, x3, x4, x5, x6, x7, x8].drop 8 = [x8] from rfl, le8_8, le8_1]; rfl
set_option maxRecDepth 100000 in
set_option maxHeartbeats 800000 in
theorem sum128_at10 (g clen : Nat) (b off : Nat) (tc : Nat) (h1 h2 : BitVec 64) (x0 x1 x2 x3 x4 x5 x6 x7 x8 x9 : UInt8) (w : World) (c0 : w.cell? ⟨g, 0, none⟩ = some (.int .i64 (clen : Int))) (c1 : w.cell? ⟨g, 1, none⟩ = some (.slice (some ⟨b, off, none⟩) 10 tc))
    (c20 : w.cell? ⟨g, 20, none⟩ = some (.int .u64 (un h1))) (c21 : w.cell? ⟨g, 21, none⟩ = some (.int .u64 (un h2))) (y0 : w.cell? ⟨b, off, none⟩ = some (.int .u8 (x0.toNat : Int))) (y1 : w.cell? ⟨b, off + 1, none⟩ = some (.int .u8 (x1.toNat : Int))) (y2 : w.cell? ⟨b, off + 2, none⟩ = some (.int .u8 (x2.toNat : Int))) (y3 : w.cell? ⟨b, off + 3, none⟩ = some (.int .u8 (x3.toNat : Int))) (y4 : w.cell? ⟨b, off + 4, none⟩ = some (.int .u8 (x4.toNat : Int))) (y5 : w.cell? ⟨b, off + 5, none⟩ = some (.int .u8 (x5.toNat : Int))) (y6 : w.cell? ⟨b, off + 6, none⟩ = some (.int .u8 (x6.toNat : Int))) (y7 : w.cell? ⟨b, off + 7, none⟩ = some (.int .u8 (x7.toNat : Int))) (y8 : w.cell? ⟨b, off + 8, none⟩ = some (.int .u8 (x8.toNat : Int))) (y9 : w.cell? ⟨b, off + 9, none⟩ = some (.int .u8 (x9.toNat : Int))) :
   Calls Try.prog 71 #[.pointer (some ⟨g, 0, none⟩)] w fun e w' => e = .returned (.tuple #[.int .u64 (un (fin128 (h1, h2) [x0, x1, x2, x3, x4, x5, x6, x7, x8, x9] clen).1), .int .u64 (un (fin128 (h1, h2) [x0, x1, x2, x3, x4, x5, x6, x7, x8, x9] clen).2)]) ∧ ∃ n, w' = w.drewN n := by
  have hw : IntKind.u64.wrap (clen : Int) = un (BitVec.ofNat 64 clen) := by rw [un_ofInt64, BitVec.ofInt_natCast]
  have ea : bits .and .i64 10 15 = 10 := by decide
  go_enter Try.func71, Try.ntmps71
  go_wp2_with fail
  go_quiet (fail)
  go_upto_region 9 with (fail)
  iterate 14 (first | refine out_then ?_ | refine out_block rfl ?_ | refine in_block ?_ | go_step)
  repeat (first | refine out_then ?_ | refine out_block rfl ?_ | refine in_block ?_)
  go_wp2_with fail
  refine (fmix64_any _ _).mono ?_
  rintro e w' ⟨rfl, rfl⟩
  go_wp2_with fail
  refine (fmix64_any _ _).mono ?_
  rintro e w' ⟨rfl, rfl⟩
  go_wp2_with fail
  go_ret2
  refine ⟨?_, _, rfl⟩
  rw [fin128, show [x0, x1, x2, x3, x4, x5, x6, x7, x8, x9].drop 8 = [x8, x9] from rfl, le8_8, le8_2]; rfl
set_option maxRecDepth 100000 in
set_option maxHeartbeats 800000 in
theorem sum128_at11 (g clen : Nat) (b off : Nat) (tc : Nat) (h1 h2 : BitVec 64) (x0 x1 x2 x3 x4 x5 x6 x7 x8 x9 x10 : UInt8) (w : World) (c0 : w.cell? ⟨g, 0, none⟩ = some (.int .i64 (clen : Int))) (c1 : w.cell? ⟨g, 1, none⟩ = some (.slice (some ⟨b, off, none⟩) 11 tc))
    (c20 : w.cell? ⟨g, 20, none⟩ = some (.int .u64 (un h1))) (c21 : w.cell? ⟨g, 21, none⟩ = some (.int .u64 (un h2))) (y0 : w.cell? ⟨b, off, none⟩ = some (.int .u8 (x0.toNat : Int))) (y1 : w.cell? ⟨b, off + 1, none⟩ = some (.int .u8 (x1.toNat : Int))) (y2 : w.cell? ⟨b, off + 2, none⟩ = some (.int .u8 (x2.toNat : Int))) (y3 : w.cell? ⟨b, off + 3, none⟩ = some (.int .u8 (x3.toNat : Int))) (y4 : w.cell? ⟨b, off + 4, none⟩ = some (.int .u8 (x4.toNat : Int))) (y5 : w.cell? ⟨b, off + 5, none⟩ = some (.int .u8 (x5.toNat : Int))) (y6 : w.cell? ⟨b, off + 6, none⟩ = some (.int .u8 (x6.toNat : Int))) (y7 : w.cell? ⟨b, off + 7, none⟩ = some (.int .u8 (x7.toNat : Int))) (y8 : w.cell? ⟨b, off + 8, none⟩ = some (.int .u8 (x8.toNat : Int))) (y9 : w.cell? ⟨b, off + 9, none⟩ = some (.int .u8 (x9.toNat : Int))) (y10 : w.cell? ⟨b, off + 10, none⟩ = some (.int .u8 (x10.toNat : Int))) :
   Calls Try.prog 71 #[.pointer (some ⟨g, 0, none⟩)] w fun e w' => e = .returned (.tuple #[.int .u64 (un (fin128 (h1, h2) [x0, x1, x2, x3, x4, x5, x6, x7, x8, x9, x10] clen).1), .int .u64 (un (fin128 (h1, h2) [x0, x1, x2, x3, x4, x5, x6, x7, x8, x9, x10] clen).2)]) ∧ ∃ n, w' = w.drewN n := by
  have hw : IntKind.u64.wrap (clen : Int) = un (BitVec.ofNat 64 clen) := by rw [un_ofInt64, BitVec.ofInt_natCast]
  have ea : bits .and .i64 11 15 = 11 := by decide
  go_enter Try.func71, Try.ntmps71
  go_wp2_with fail
  go_quiet (fail)
  go_upto_region 8 with (fail)
  iterate 14 (first | refine out_then ?_ | refine out_block rfl ?_ | refine in_block ?_ | go_step)
  repeat (first | refine out_then ?_ | refine out_block rfl ?_ | refine in_block ?_)
  go_wp2_with fail
  refine (fmix64_any _ _).mono ?_
  rintro e w' ⟨rfl, rfl⟩
  go_wp2_with fail
  refine (fmix64_any _ _).mono ?_
  rintro e w' ⟨rfl, rfl⟩
  go_wp2_with fail
  go_ret2
  refine ⟨?_, _, rfl⟩
  rw [fin128, show [x0, x1, x2, x3, x4, x5, x6, x7, x8, x9, x10].drop 8 = [x8, x9, x10] from rfl, le8_8, le8_3]; rfl
end Go.Proofs.Ytfnejnoldonfeaa
