/-
  What digest128.Sum128 returns, at each number of pending bytes (twelve to fifteen).
  Conditions: the digest's fields lie in memory as said.
-/
import Derived.Test.YtfnejnoldonfeaaD128H
namespace Go.Proofs.Ytfnejnoldonfeaa
open Go.RowKit
set_option maxRecDepth 100000 in
set_option maxHeartbeats 800000 in
theorem sum128_at12 (g clen : Nat) (b off : Nat) (tc : Nat) (h1 h2 : BitVec 64) (x0 x1 x2 x3 x4 x5 x6 x7 x8 x9 x10 x11 : UInt8) (w : World) (c0 : w.cell? ⟨g, 0, none⟩ = some (.int .i64 (clen : Int))) (c1 : w.cell? ⟨g, 1, none⟩ = some (.slice (some ⟨b, off, none⟩) 12 tc))
    (c20 : w.cell? ⟨g, 20, none⟩ = some (.int .u64 (un h1))) (c21 : w.cell? ⟨g, 21, none⟩ = some (.int .u64 (un h2))) (y0 : w.cell? ⟨b, off, none⟩ = some (.int .u8 (x0.toNat : Int))) (y1 : w.cell? ⟨b, off + 1, none⟩ = some (.int .u8 (x1.toNat : Int))) (y2 : w.cell? ⟨b, off + 2, none⟩ = some (.int .u8 (x2.toNat : Int))) (y3 : w.cell? ⟨b, off + 3, none⟩ = some (.int .u8 (x3.toNat : Int))) (y4 : w.cell? ⟨b, off + 4, none⟩ = some (.int .u8 (x4.toNat : Int))) (y5 : w.cell? ⟨b, off + 5, none⟩ = some (.int .u8 (x5.toNat : Int))) (y6 : w.cell? ⟨b, off + 6, none⟩ = some (.int .u8 (x6.toNat : Int))) (y7 : w.cell? ⟨b, off + 7, none⟩ = some (.int .u8 (x7.toNat : Int))) (y8 : w.cell? ⟨b, off + 8, none⟩ = some (.int .u8 (x8.toNat : Int))) (y9 : w.cell? ⟨b, off + 9, none⟩ = some (.int .u8 (x9.toNat : Int))) (y10 : w.cell? ⟨b, off + 10, none⟩ = some (.int .u8 (x10.toNat : Int))) (y11 : w.cell? ⟨b, off + 11, none⟩ = some (.int .u8 (x11.toNat : Int))) :
   Calls Try.prog 71 #[.pointer (some ⟨g, 0, none⟩)] w fun e w' => e = .returned (.tuple #[.int .u64 (un (fin128 (h1, h2) [x0, x1, x2, x3, x4, x5, x6, x7, x8, x9, x10, x11] clen).1), .int .u64 (un (fin128 (h1, h2) [x0, x1, x2, x3, x4, x5, x6, x7, x8, x9, x10, x11] clen).2)]) ∧ ∃ n, w' = w.drewN n := by
  have hw : IntKind.u64.wrap (clen : Int) = un (BitVec.ofNat 64 clen) := by rw [un_ofInt64, BitVec.ofInt_natCast]
  have ea : bits .and .i64 12 15 = 12 := by decide
  go_enter Try.func71, Try.ntmps71
  go_wp2_with fail
  go_quiet (fail)
  go_upto_region 7 with (fail)
  iterate 14 (first | refine out_then ?_ | refine out_block rfl ?_ | refine in_block ?_ | go_step)
  repeat (first | refine out_then ?_ | refine out_block rfl ?_ | refine in_block ?_)
  go_wp2_with fail
  refine (fmix64_any _ _).mono ?_
  rintro e w' ⟨rfl, rfl⟩
  go_wp2_with fail
  refine (fmix64_any _ _).mono ?_
  rintro e w' ⟨rfl, rfl⟩
  go_wp2_with fail
  go_ret2
  refine ⟨?_, _, rfl⟩
  rw [fin128, show [x0, x1, x2, x3, x4, x5, x6, x7, x8, x9, x10, x11].drop 8 = [x8, x9, x10, x11] from rfl, le8_8, le8_4]; rfl
set_option maxRecDepth 100000 in
set_option maxHeartbeats 800000 in
theorem sum128_at13 (g clen : Nat) (b off : Nat) (tc : Nat) (h1 h2 : BitVec 64) (x0 x1 x2 x3 x4 x5 x6 x7 x8 x9 x10 x11 x12 : UInt8) (w : World) (c0 : w.cell? ⟨g, 0, none⟩ = some (.int .i64 (clen : Int))) (c1 : w.cell? ⟨g, 1, none⟩ = some (.slice (some ⟨b, off, none⟩) 13 tc))
    (c20 : w.cell? ⟨g, 20, none⟩ = some (.int .u64 (un h1))) (c21 : w.cell? ⟨g, 21, none⟩ = some (.int .u64 (un h2))) (y0 : w.cell? ⟨b, off, none⟩ = some (.int .u8 (x0.toNat : Int))) (y1 : w.cell? ⟨b, off + 1, none⟩ = some (.int .u8 (x1.toNat : Int))) (y2 : w.cell? ⟨b, off + 2, none⟩ = some (.int .u8 (x2.toNat : Int))) (y3 : w.cell? ⟨b, off + 3, none⟩ = some (.int .u8 (x3.toNat : Int))) (y4 : w.cell? ⟨b, off + 4, none⟩ = some (.int .u8 (x4.toNat : Int))) (y5 : w.cell? ⟨b, off + 5, none⟩ = some (.int .u8 (x5.toNat : Int))) (y6 : w.cell? ⟨b, off + 6, none⟩ = some (.int .u8 (x6.toNat : Int))) (y7 : w.cell? ⟨b, off + 7, none⟩ = some (.int .u8 (x7.toNat : Int))) (y8 : w.cell? ⟨b, off + 8, none⟩ = some (.int .u8 (x8.toNat : Int))) (y9 : w.cell? ⟨b, off + 9, none⟩ = some (.int .u8 (x9.toNat : Int))) (y10 : w.cell? ⟨b, off + 10, none⟩ = some (.int .u8 (x10.toNat : Int))) (y11 : w.cell? ⟨b, off + 11, none⟩ = some (.int .u8 (x11.toNat : Int))) (y12 : w.cell? ⟨b, off + 12, none⟩ = some (.int .u8 (x12.toNat : Int))) :
   Calls Try.prog 71 #[.pointer (some ⟨g, 0, none⟩)] w fun e w' => e = .returned (.tuple #[.int .u64 (un (fin128 (h1, h2) [x0, x1, x2, x3, x4, x5, x6, x7, x8, x9, x10, x11, x12] clen).1), .int .u64 (un (fin128 (h1, h2) [x0, x1, x2, x3, x4, x5, x6, x7, x8, x9, x10, x11, x12] clen).2)]) ∧ ∃ n, w' = w.drewN n := by
  have hw : IntKind.u64.wrap (clen : Int) = un (BitVec.ofNat 64 clen) := by rw [un_ofInt64, BitVec.ofInt_natCast]
  have ea : bits .and .i64 13 15 = 13 := by decide
  go_enter Try.func71, Try.ntmps71
  go_wp2_with fail
  go_quiet (fail)
  go_upto_region 6 with (fail)
  iterate 14 (first | refine out_then ?_ | refine out_block rfl ?_ | refine in_block ?_ | go_step)
  repeat (first | refine out_then ?_ | refine out_block rfl ?_ | refine in_block ?_)
  go_wp2_with fail
  refine (fmix64_any _ _).mono ?_
  rintro e w' ⟨rfl, rfl⟩
  go_wp2_with fail
  refine (fmix64_any _ _).mono ?_
  rintro e w' ⟨rfl, rfl⟩
  go_wp2_with fail
  go_ret2
  refine ⟨?_, _, rfl⟩
  rw [fin128, show [x0, x1, x2, x3, x4, x5, x6, x7, x8, x9, x10, x11, x12].drop 8 = [x8, x9, x10, x11, x12] from rfl, le8_8, le8_5]; rfl
set_option maxRecDepth 100000 in
set_option maxHeartbeats 800000 in
theorem sum128_at14 (g clen : Nat) (b off : Nat) (tc : Nat) (h1 h2 : BitVec 64) (x0 x1 x2 x3 x4 x5 x6 x7 x8 x9 x10 x11 x12 x13 : UInt8) (w : World) (c0 : w.cell? ⟨g, 0, none⟩ = some (.int .i64 (clen : Int))) (c1 : w.cell? ⟨g, 1, none⟩ = some (.slice (some ⟨b, off, none⟩) 14 tc))
    (c20 : w.cell? ⟨g, 20, none⟩ = some (.int .u64 (un h1))) (c21 : w.cell? ⟨g, 21, none⟩ = some (.int .u64 (un h2))) (y0 : w.cell? ⟨b, off, none⟩ = some (.int .u8 (x0.toNat : Int))) (y1 : w.cell? ⟨b, off + 1, none⟩ = some (.int .u8 (x1.toNat : Int))) (y2 : w.cell? ⟨b, off + 2, none⟩ = some (.int .u8 (x2.toNat : Int))) (y3 : w.cell? ⟨b, off + 3, none⟩ = some (.int .u8 (x3.toNat : Int))) (y4 : w.cell? ⟨b, off + 4, none⟩ = some (.int .u8 (x4.toNat : Int))) (y5 : w.cell? ⟨b, off + 5, none⟩ = some (.int .u8 (x5.toNat : Int))) (y6 : w.cell? ⟨b, off + 6, none⟩ = some (.int .u8 (x6.toNat : Int))) (y7 : w.cell? ⟨b, off + 7, none⟩ = some (.int .u8 (x7.toNat : Int))) (y8 : w.cell? ⟨b, off + 8, none⟩ = some (.int .u8 (x8.toNat : Int))) (y9 : w.cell? ⟨b, off + 9, none⟩ = some (.int .u8 (x9.toNat : Int))) (y10 : w.cell? ⟨b, off + 10, none⟩ = some (.int .u8 (x10.toNat : Int))) (y11 : w.cell? ⟨b, off + 11, none⟩ = some (.int .u8 (x11.toNat : Int))) (y12 : w.cell? ⟨b, off + 12, none⟩ = some (.int .u8 (x12.toNat : Int))) (y13 : w.cell? ⟨b, off + 13, none⟩ = some (.int .u8 (x13.toNat : Int))) :
   Calls Try.prog 71 #[.pointer (some ⟨g, 0, none⟩)] w fun e w' => e = .returned (.tuple #[.int .u64 (un (fin128 (h1, h2) [x0, x1, x2, x3, x4, x5, x6, x7, x8, x9, x10, x11, x12, x13] clen).1), .int .u64 (un (fin128 (h1, h2) [x0, x1, x2, x3, x4, x5, x6, x7, x8, x9, x10, x11, x12, x13] clen).2)]) ∧ ∃ n, w' = w.drewN n := by
  have hw : IntKind.u64.wrap (clen : Int) = un (BitVec.ofNat 64 clen) := by rw [un_ofInt64, BitVec.ofInt_natCast]
  have ea : bits .and .i64 14 15 = 14 := by decide
  go_enter Try.func71, Try.ntmps71
  go_wp2_with fail
  go_quiet (fail)
  go_upto_region 5 with (fail)
  iterate 14 (first | refine out_then ?_ | refine out_block rfl ?_ | refine in_block ?_ | go_step)
  repeat (first | refine out_then ?_ | refine out_block rfl ?_ | refine in_block ?_)
  go_wp2_with fail
  refine (fmix64_any _ _).mono ?_
  rintro e w' ⟨rfl, rfl⟩
  go_wp2_with fail
  refine (fmix64_any _ _).mono ?_
  rintro e w' ⟨rfl, rfl⟩
  go_wp2_with fail
  go_ret2
  refine ⟨?_, _, rfl⟩
  rw [fin128, show [x0, x1, x2, x3, x4, x5, x6, x7, x8, x9, x10, x11, x12, x13].drop 8 = [x8, x9, x10, x11, x12, x13] from rfl, le8_8, le8_6]; rfl
set_option maxRecDepth 100000 in
set_option maxHeartbeats 800000 in
theorem sum128_at15 (g clen : Nat) (b off : Nat) (tc : Nat) (h1 h2 : BitVec 64) (x0 x1 x2 x3 x4 x5 x6 x7 x8 x9 x10 x11 x12 x13 x14 : UInt8) (w : World) (c0 : w.cell? ⟨g, 0, none⟩ = some (.int .i64 (clen : Int))) (c1 : w.cell? ⟨g, 1, none⟩ = some (.slice (some ⟨b, off, none⟩) 15 tc))
    (c20 : w.cell? ⟨g, 20, none⟩ = some (.int .u64 (un h1))) (c21 : w.cell? ⟨g, 21, none⟩ = some (.int .u64 (un h2))) (y0 : w.cell? ⟨b, off, none⟩ = some (.int .u8 (x0.toNat : Int))) (y1 : w.cell? ⟨b, off + 1, none⟩ = some (.int .u8 (x1.toNat : Int))) (y2 : w.cell? ⟨b, off + 2, none⟩ = some (.int .u8 (x2.toNat : Int))) (y3 : w.cell? ⟨b, off + 3, none⟩ = some (.int .u8 (x3.toNat : Int))) (y4 : w.cell? ⟨b, off + 4, none⟩ = some (.int .u8 (x4.toNat : Int))) (y5 : w.cell? ⟨b, off + 5, none⟩ = some (.int .u8 (x5.toNat : Int))) (y6 : w.cell? ⟨b, off + 6, none⟩ = some (.int .u8 (x6.toNat : Int))) (y7 : w.cell? ⟨b, off + 7, none⟩ = some (.int .u8 (x7.toNat : Int))) (y8 : w.cell? ⟨b, off + 8, none⟩ = some (.int .u8 (x8.toNat : Int))) (y9 : w.cell? ⟨b, off + 9, none⟩ = some (.int .u8 (x9.toNat : Int))) (y10 : w.cell? ⟨b, off + 10, none⟩ = some (.int .u8 (x10.toNat : Int))) (y11 : w.cell? ⟨b, off + 11, none⟩ = some (.int .u8 (x11.toNat : Int))) (y12 : w.cell? ⟨b, off + 12, none⟩ = some (.int .u8 (x12.toNat : Int))) (y13 : w.cell? ⟨b, off + 13, none⟩ = some (.int .u8 (x13.toNat : Int))) (y14 : w.cell? ⟨b, off + 14, none⟩ = some (.int .u8 (x14.toNat : Int))) :
   Calls Try.prog 71 #[.pointer (some ⟨g, 0, none⟩)] w fun e w' => e = .returned (.tuple #[.int .u64 (un (fin128 (h1, h2) [x0, x1, x2, x3, x4, x5, x6, x7, x8, x9, x10, x11, x12, x13, x14] clen).1), .int .u64 (un (fin128 (h1, h2) [x0, x1, x2, x3, x4, x5, x6, x7, x8, x9, x10, x11, x12, x13, x14] clen).2)]) ∧ ∃ n, w' = w.drewN n := by
  have hw : IntKind.u64.wrap (clen : Int) = un (BitVec.ofNat 64 clen) := by rw [un_ofInt64, BitVec.ofInt_natCast]
  have ea : bits .and .i64 15 15 = 15 := by decide
  go_enter Try.func71, Try.ntmps71
  go_wp2_with fail
  go_quiet (fail)
  go_upto_region 4 with (fail)
  iterate 14 (first | refine out_then ?_ | refine out_block rfl ?_ | refine in_block ?_ | go_step)
  repeat (first | refine out_then ?_ | refine out_block rfl ?_ | refine in_block ?_)
  go_wp2_with fail
  refine (fmix64_any _ _).mono ?_
  rintro e w' ⟨rfl, rfl⟩
  go_wp2_with fail
  refine (fmix64_any _ _).mono ?_
  rintro e w' ⟨rfl, rfl⟩
  go_wp2_with fail
  go_ret2
  refine ⟨?_, _, rfl⟩
  rw [fin128, show [x0, x1, x2, x3, x4, x5, x6, x7, x8, x9, x10, x11, x12, x13, x14].drop 8 = [x8, x9, x10, x11, x12, x13, x14] from rfl, le8_8, le8_7]; rfl
end Go.Proofs.Ytfnejnoldonfeaa
