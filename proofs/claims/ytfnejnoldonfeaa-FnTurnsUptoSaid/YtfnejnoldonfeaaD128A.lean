/-
  What digest128.Sum128 returns, at each number of pending bytes (none to six).
  Conditions: the digest's fields lie in memory as said.
-/
import Derived.Test.YtfnejnoldonfeaaD128H
namespace Go.Proofs.Ytfnejnoldonfeaa
open Go.RowKit
set_option maxRecDepth 100000 in
set_option maxHeartbeats 800000 in
theorem sum128_at0 (g clen : Nat) (A : Option Addr) (tc : Nat) (h1 h2 : BitVec 64) (w : World) (c0 : w.cell? ⟨g, 0, none⟩ = some (.int .i64 (clen : Int))) (c1 : w.cell? ⟨g, 1, none⟩ = some (.slice A 0 tc))
    (c20 : w.cell? ⟨g, 20, none⟩ = some (.int .u64 (un h1))) (c21 : w.cell? ⟨g, 21, none⟩ = some (.int .u64 (un h2))) :
   Calls Try.prog 71 #[.pointer (some ⟨g, 0, none⟩)] w fun e w' => e = .returned (.tuple #[.int .u64 (un (fin128 (h1, h2) [] clen).1), .int .u64 (un (fin128 (h1, h2) [] clen).2)]) ∧ ∃ n, w' = w.drewN n := by
  have hw : IntKind.u64.wrap (clen : Int) = un (BitVec.ofNat 64 clen) := by rw [un_ofInt64, BitVec.ofInt_natCast]
  have ea : bits .and .i64 0 15 = 0 := by decide
  go_enter Try.func71, Try.ntmps71
  go_wp2_with fail
  go_quiet (fail)
  go_upto_region 18 with (fail)
  iterate 40 (first | refine out_then ?_ | refine out_block rfl ?_ | refine in_block ?_ | go_step)
  repeat (first | refine out_then ?_ | refine out_block rfl ?_ | refine in_block ?_)
  go_wp2_with fail
  refine (fmix64_any _ _).mono ?_
  rintro e w' ⟨rfl, rfl⟩
  go_wp2_with fail
  refine (fmix64_any _ _).mono ?_
  rintro e w' ⟨rfl, rfl⟩
  go_wp2_with fail
  go_ret2
  refine ⟨?_, _, rfl⟩
  rw [fin128, le8_nil, show ([] : List UInt8).drop 8 = [] from rfl, le8_nil, first0, second0, BitVec.xor_zero, BitVec.xor_zero]; rfl
set_option maxRecDepth 100000 in
set_option maxHeartbeats 800000 in
theorem sum128_at1 (g clen : Nat) (b off : Nat) (tc : Nat) (h1 h2 : BitVec 64) (x0 : UInt8) (w : World) (c0 : w.cell? ⟨g, 0, none⟩ = some (.int .i64 (clen : Int))) (c1 : w.cell? ⟨g, 1, none⟩ = some (.slice (some ⟨b, off, none⟩) 1 tc))
    (c20 : w.cell? ⟨g, 20, none⟩ = some (.int .u64 (un h1))) (c21 : w.cell? ⟨g, 21, none⟩ = some (.int .u64 (un h2))) (y0 : w.cell? ⟨b, off, none⟩ = some (.int .u8 (x0.toNat : Int))) :
   Calls Try.prog 71 #[.pointer (some ⟨g, 0, none⟩)] w fun e w' => e = .returned (.tuple #[.int .u64 (un (fin128 (h1, h2) [x0] clen).1), .int .u64 (un (fin128 (h1, h2) [x0] clen).2)]) ∧ ∃ n, w' = w.drewN n := by
  have hw : IntKind.u64.wrap (clen : Int) = un (BitVec.ofNat 64 clen) := by rw [un_ofInt64, BitVec.ofInt_natCast]
  have ea : bits .and .i64 1 15 = 1 := by decide
  go_enter Try.func71, Try.ntmps71
  go_wp2_with fail
  go_quiet (fail)
  go_upto_region 18 with (fail)
  iterate 14 (first | refine out_then ?_ | refine out_block rfl ?_ | refine in_block ?_ | go_step)
  repeat (first | refine out_then ?_ | refine out_block rfl ?_ | refine in_block ?_)
  go_wp2_with fail
  refine (fmix64_any _ _).mono ?_
  rintro e w' ⟨rfl, rfl⟩
  go_wp2_with fail
  refine (fmix64_any _ _).mono ?_
  rintro e w' ⟨rfl, rfl⟩
  go_wp2_with fail
  go_ret2
  refine ⟨?_, _, rfl⟩
  rw [fin128, show [x0].drop 8 = [] from rfl, le8_1, le8_nil, second0, BitVec.xor_zero]; rfl
set_option maxRecDepth 100000 in
set_option maxHeartbeats 800000 in
theorem sum128_at2 (g clen : Nat) (b off : Nat) (tc : Nat) (h1 h2 : BitVec 64) (x0 x1 : UInt8) (w : World) (c0 : w.cell? ⟨g, 0, none⟩ = some (.int .i64 (clen : Int))) (c1 : w.cell? ⟨g, 1, none⟩ = some (.slice (some ⟨b, off, none⟩) 2 tc))
    (c20 : w.cell? ⟨g, 20, none⟩ = some (.int .u64 (un h1))) (c21 : w.cell? ⟨g, 21, none⟩ = some (.int .u64 (un h2))) (y0 : w.cell? ⟨b, off, none⟩ = some (.int .u8 (x0.toNat : Int))) (y1 : w.cell? ⟨b, off + 1, none⟩ = some (.int .u8 (x1.toNat : Int))) :
   Calls Try.prog 71 #[.pointer (some ⟨g, 0, none⟩)] w fun e w' => e = .returned (.tuple #[.int .u64 (un (fin128 (h1, h2) [x0, x1] clen).1), .int .u64 (un (fin128 (h1, h2) [x0, x1] clen).2)]) ∧ ∃ n, w' = w.drewN n := by
  have hw : IntKind.u64.wrap (clen : Int) = un (BitVec.ofNat 64 clen) := by rw [un_ofInt64, BitVec.ofInt_natCast]
  have ea : bits .and .i64 2 15 = 2 := by decide
  go_enter Try.func71, Try.ntmps71
  go_wp2_with fail
  go_quiet (fail)
  go_upto_region 17 with (fail)
  iterate 14 (first | refine out_then ?_ | refine out_block rfl ?_ | refine in_block ?_ | go_step)
  repeat (first | refine out_then ?_ | refine out_block rfl ?_ | refine in_block ?_)
  go_wp2_with fail
  refine (fmix64_any _ _).mono ?_
  rintro e w' ⟨rfl, rfl⟩
  go_wp2_with fail
  refine (fmix64_any _ _).mono ?_
  rintro e w' ⟨rfl, rfl⟩
  go_wp2_with fail
  go_ret2
  refine ⟨?_, _, rfl⟩
  rw [fin128, show [x0, x1].drop 8 = [] from rfl, le8_2, le8_nil, second0, BitVec.xor_zero]; rfl
set_option maxRecDepth 100000 in
set_option maxHeartbeats 800000 in
theorem sum128_at3 (g clen : Nat) (b off : Nat) (tc : Nat) (h1 h2 : BitVec 64) (x0 x1 x2 : UInt8) (w : World) (c0 : w.cell? ⟨g, 0, none⟩ = some (.int .i64 (clen : Int))) (c1 : w.cell? ⟨g, 1, none⟩ = some (.slice (some ⟨b, off, none⟩) 3 tc))
    (c20 : w.cell? ⟨g, 20, none⟩ = some (.int .u64 (un h1))) (c21 : w.cell? ⟨g, 21, none⟩ = some (.int .u64 (un h2))) (y0 : w.cell? ⟨b, off, none⟩ = some (.int .u8 (x0.toNat : Int))) (y1 : w.cell? ⟨b, off + 1, none⟩ = some (.int .u8 (x1.toNat : Int))) (y2 : w.cell? ⟨b, off + 2, none⟩ = some (.int .u8 (x2.toNat : Int))) :
   Calls Try.prog 71 #[.pointer (some ⟨g, 0, none⟩)] w fun e w' => e = .returned (.tuple #[.int .u64 (un (fin128 (h1, h2) [x0, x1, x2] clen).1), .int .u64 (un (fin128 (h1, h2) [x0, x1, x2] clen).2)]) ∧ ∃ n, w' = w.drewN n := by
  have hw : IntKind.u64.wrap (clen : Int) = un (BitVec.ofNat 64 clen) := by rw [un_ofInt64, BitVec.ofInt_natCast]
  have ea : bits .and .i64 3 15 = 3 := by decide
  go_enter Try.func71, Try.ntmps71
  go_wp2_with fail
  go_quiet (fail)
  go_upto_region 16 with (fail)
  iterate 14 (first | refine out_then ?_ | refine out_block rfl ?_ | refine in_block ?_ | go_step)
  repeat (first | refine out_then ?_ | refine out_block rfl ?_ | refine in_block ?_)
  go_wp2_with fail
  refine (fmix64_any _ _).mono ?_
  rintro e w' ⟨rfl, rfl⟩
  go_wp2_with fail
  refine (fmix64_any _ _).mono ?_
  rintro e w' ⟨rfl, rfl⟩
  go_wp2_with fail
  go_ret2
  refine ⟨?_, _, rfl⟩
  rw [fin128, show [x0, x1, x2].drop 8 = [] from rfl, le8_3, le8_nil, second0, BitVec.xor_zero]; rfl
set_option maxRecDepth 100000 in
set_option maxHeartbeats 800000 in
theorem sum128_at4 (g clen : Nat) (b off : Nat) (tc : Nat) (h1 h2 : BitVec 64) (x0 x1 x2 x3 : UInt8) (w : World) (c0 : w.cell? ⟨g, 0, none⟩ = some (.int .i64 (clen : Int))) (c1 : w.cell? ⟨g, 1, none⟩ = some (.slice (some ⟨b, off, none⟩) 4 tc))
    (c20 : w.cell? ⟨g, 20, none⟩ = some (.int .u64 (un h1))) (c21 : w.cell? ⟨g, 21, none⟩ = some (.int .u64 (un h2))) (y0 : w.cell? ⟨b, off, none⟩ = some (.int .u8 (x0.toNat : Int))) (y1 : w.cell? ⟨b, off + 1, none⟩ = some (.int .u8 (x1.toNat : Int))) (y2 : w.cell? ⟨b, off + 2, none⟩ = some (.int .u8 (x2.toNat : Int))) (y3 : w.cell? ⟨b, off + 3, none⟩ = some (.int .u8 (x3.toNat : Int))) :
   Calls Try.prog 71 #[.pointer (some ⟨g, 0, none⟩)] w fun e w' => e = .returned (.tuple #[.int .u64 (un (fin128 (h1, h2) [x0, x1, x2, x3] clen).1), .int .u64 (un (fin128 (h1, h2) [x0, x1, x2, x3] clen).2)]) ∧ ∃ n, w' = w.drewN n := by
  have hw : IntKind.u64.wrap (clen : Int) = un (BitVec.ofNat 64 clen) := by rw [un_ofInt64, BitVec.ofInt_natCast]
  have ea : bits .and .i64 4 15 = 4 := by decide
  go_enter Try.func71, Try.ntmps71
  go_wp2_with fail
  go_quiet (fail)
  go_upto_region 15 with (fail)
  iterate 14 (first | refine out_then ?_ | refine out_block rfl ?_ | refine in_block ?_ | go_step)
  repeat (first | refine out_then ?_ | refine out_block rfl ?_ | refine in_block ?_)
  go_wp2_with fail
  refine (fmix64_any _ _).mono ?_
  rintro e w' ⟨rfl, rfl⟩
  go_wp2_with fail
  refine (fmix64_any _ _).mono ?_
  rintro e w' ⟨rfl, rfl⟩
  go_wp2_with fail
  go_ret2
  refine ⟨?_, _, rfl⟩
  rw [fin128, show [x0, x1, x2, x3].drop 8 = [] from rfl, le8_4, le8_nil, second0, BitVec.xor_zero]; rfl
set_option maxRecDepth 100000 in
set_option maxHeartbeats 800000 in
theorem sum128_at5 (g clen : Nat) (b off : Nat) (tc : Nat) (h1 h2 : BitVec 64) (x0 x1 x2 x3 x4 : UInt8) (w : World) (c0 : w.cell? ⟨g, 0, none⟩ = some (.int .i64 (clen : Int))) (c1 : w.cell? ⟨g, 1, none⟩ = some (.slice (some ⟨b, off, none⟩) 5 tc))
    (c20 : w.cell? ⟨g, 20, none⟩ = some (.int .u64 (un h1))) (c21 : w.cell? ⟨g, 21, none⟩ = some (.int .u64 (un h2))) (y0 : w.cell? ⟨b, off, none⟩ = some (.int .u8 (x0.toNat : Int))) (y1 : w.cell? ⟨b, off + 1, none⟩ = some (.int .u8 (x1.toNat : Int))) (y2 : w.cell? ⟨b, off + 2, none⟩ = some (.int .u8 (x2.toNat : Int))) (y3 : w.cell? ⟨b, off + 3, none⟩ = some (.int .u8 (x3.toNat : Int))) (y4 : w.cell? ⟨b, off + 4, none⟩ = some (.int .u8 (x4.toNat : Int))) :
   Calls Try.prog 71 #[.pointer (some ⟨g, 0, none⟩)] w fun e w' => e = .returned (.tuple #[.int .u64 (un (fin128 (h1, h2) [x0, x1, x2, x3, x4] clen).1), .int .u64 (un (fin128 (h1, h2) [x0, x1, x2, x3, x4] clen).2)]) ∧ ∃ n, w' = w.drewN n := by
  have hw : IntKind.u64.wrap (clen : Int) = un (BitVec.ofNat 64 clen) := by rw [un_ofInt64, BitVec.ofInt_natCast]
  have ea : bits .and .i64 5 15 = 5 := by decide
  go_enter Try.func71, Try.ntmps71
  go_wp2_with fail
  go_quiet (fail)
  go_upto_region 14 with (fail)
  iterate 14 (first | refine out_then ?_ | refine out_block rfl ?_ | refine in_block ?_ | go_step)
  repeat (first | refine out_then ?_ | refine out_block rfl ?_ | refine in_block ?_)
  go_wp2_with fail
  refine (fmix64_any _ _).mono ?_
  rintro e w' ⟨rfl, rfl⟩
  go_wp2_with fail
  refine (fmix64_any _ _).mono ?_
  rintro e w' ⟨rfl, rfl⟩
  go_wp2_with fail
  go_ret2
  refine ⟨?_, _, rfl⟩
  rw [fin128, show [x0, x1, x2, x3, x4].drop 8 = [] from rfl, le8_5, le8_nil, second0, BitVec.xor_zero]; rfl
set_option maxRecDepth 100000 in
set_option maxHeartbeats 800000 in
theorem sum128_at6 (g clen : Nat) (b off : Nat) (tc : Nat) (h1 h2 : BitVec 64) (x0 x1 x2 x3 x4 x5 : UInt8) (w : World) (c0 : w.cell? ⟨g, 0, none⟩ = some (.int .i64 (clen : Int))) (c1 : w.cell? ⟨g, 1, none⟩ = some (.slice (some ⟨b, off, none⟩) 6 tc))
    (c20 : w.cell? ⟨g, 20, none⟩ = some (.int .u64 (un h1))) (c21 : w.cell? ⟨g, 21, none⟩ = some (.int .u64 (un h2))) (y0 : w.cell? ⟨b, off, none⟩ = some (.int .u8 (x0.toNat : Int))) (y1 : w.cell? ⟨b, off + 1, none⟩ = some (.int .u8 (x1.toNat : Int))) (y2 : w.cell? ⟨b, off + 2, none⟩ = some (.int .u8 (x2.toNat : Int))) (y3 : w.cell? ⟨b, off + 3, none⟩ = some (.int .u8 (x3.toNat : Int))) (y4 : w.cell? ⟨b, off + 4, none⟩ = some (.int .u8 (x4.toNat : Int))) (y5 : w.cell? ⟨b, off + 5, none⟩ = some (.int .u8 (x5.toNat : Int))) :
   Calls Try.prog 71 #[.pointer (some ⟨g, 0, none⟩)] w fun e w' => e = .returned (.tuple #[.int .u64 (un (fin128 (h1, h2) [x0, x1, x2, x3, x4, x5] clen).1), .int .u64 (un (fin128 (h1, h2) [x0, x1, x2, x3, x4, x5] clen).2)]) ∧ ∃ n, w' = w.drewN n := by
  have hw : IntKind.u64.wrap (clen : Int) = un (BitVec.ofNat 64 clen) := by rw [un_ofInt64, BitVec.ofInt_natCast]
  have ea : bits .and .i64 6 15 = 6 := by decide
  go_enter Try.func71, Try.ntmps71
  go_wp2_with fail
  go_quiet (fail)
  go_upto_region 13 with (fail)
  iterate 14 (first | refine out_then ?_ | refine out_block rfl ?_ | refine in_block ?_ | go_step)
  repeat (first | refine out_then ?_ | refine out_block rfl ?_ | refine in_block ?_)
  go_wp2_with fail
  refine (fmix64_any _ _).mono ?_
  rintro e w' ⟨rfl, rfl⟩
  go_wp2_with fail
  refine (fmix64_any _ _).mono ?_
  rintro e w' ⟨rfl, rfl⟩
  go_wp2_with fail
  go_ret2
  refine ⟨?_, _, rfl⟩
  rw [fin128, show [x0, x1, x2, x3, x4, x5].drop 8 = [] from rfl, le8_6, le8_nil, second0, BitVec.xor_zero]; rfl
end Go.Proofs.Ytfnejnoldonfeaa
