/-
  What the reference's functions of the sum of 128 bits return.
  Conditions: each slice's bytes lie in memory as 'Bs' says.
-/
import Derived.Test.YtfnejnoldonfeaaS32
import Derived.Test.YtfnejnoldonfeaaMath2
namespace Go.Proofs.Ytfnejnoldonfeaa
open Go.RowKit
theorem wind27_any (x : BitVec 64) (w : World) : Calls Try.prog 52 #[.int .u64 (un x), .int .i64 27] w fun e w' => e = .returned (.int .u64 (un (rotl x 27))) ∧ ∃ n, w' = w.drewN n := by
  go_enter Try.func52, Try.ntmps52
  go_wp2
  go_quiet (fail)
  go_wp2
  go_ret
  exact ⟨rfl, _, rfl⟩
theorem wind31_any (x : BitVec 64) (w : World) : Calls Try.prog 52 #[.int .u64 (un x), .int .i64 31] w fun e w' => e = .returned (.int .u64 (un (rotl x 31))) ∧ ∃ n, w' = w.drewN n := by
  go_enter Try.func52, Try.ntmps52
  go_wp2
  go_quiet (fail)
  go_wp2
  go_ret
  exact ⟨rfl, _, rfl⟩
theorem wind33_any (x : BitVec 64) (w : World) : Calls Try.prog 52 #[.int .u64 (un x), .int .i64 33] w fun e w' => e = .returned (.int .u64 (un (rotl x 33))) ∧ ∃ n, w' = w.drewN n := by
  go_enter Try.func52, Try.ntmps52
  go_wp2
  go_quiet (fail)
  go_wp2
  go_ret
  exact ⟨rfl, _, rfl⟩
theorem wind37_any (x : BitVec 64) (w : World) : Calls Try.prog 52 #[.int .u64 (un x), .int .i64 37] w fun e w' => e = .returned (.int .u64 (un (rotl x 37))) ∧ ∃ n, w' = w.drewN n := by
  go_enter Try.func52, Try.ntmps52
  go_wp2
  go_quiet (fail)
  go_wp2
  go_ret
  exact ⟨rfl, _, rfl⟩
theorem first_any (x : BitVec 64) (w : World) : Calls Try.prog 55 #[.int .u64 (un x)] w fun e w' => e = .returned (.int .u64 (un (first x))) ∧ ∃ n, w' = w.drewN n := by
  go_enter Try.func55, Try.ntmps55
  go_wp2_with fail
  refine (wind31_any _ _).mono ?_
  rintro e w' ⟨rfl, n, rfl⟩
  go_wp2_with fail
  go_ret
  exact ⟨rfl, _, rfl⟩
theorem second_any (x : BitVec 64) (w : World) : Calls Try.prog 54 #[.int .u64 (un x)] w fun e w' => e = .returned (.int .u64 (un (second x))) ∧ ∃ n, w' = w.drewN n := by
  go_enter Try.func54, Try.ntmps54
  go_wp2_with fail
  refine (wind33_any _ _).mono ?_
  rintro e w' ⟨rfl, n, rfl⟩
  go_wp2_with fail
  go_ret
  exact ⟨rfl, _, rfl⟩
theorem blend_any (x : BitVec 64) (w : World) : Calls Try.prog 72 #[.int .u64 (un x)] w fun e w' => e = .returned (.int .u64 (un (blend x))) ∧ w = w' := by
  go_enter Try.func72, Try.ntmps72
  go_wp2_with fail
  go_ret
  exact ⟨rfl, rfl⟩
theorem finish_any (h1 h2 n : BitVec 64) (w : World) : Calls Try.prog 56 #[.int .u64 (un h1), .int .u64 (un h2), .int .u64 (un n)] w fun e w' =>
    e = .returned (.tuple #[.int .u64 (un (finish (h1 ^^^ n) (h2 ^^^ n)).1), .int .u64 (un (finish (h1 ^^^ n) (h2 ^^^ n)).2)]) ∧ w = w' := by
  go_enter Try.func56, Try.ntmps56
  go_wp2_with fail
  refine (blend_any _ _).mono ?_
  rintro e w' ⟨rfl, rfl⟩
  go_wp2_with fail
  refine (blend_any _ _).mono ?_
  rintro e w' ⟨rfl, rfl⟩
  go_wp2_with fail
  go_ret2
  exact ⟨rfl, rfl⟩
set_option maxRecDepth 100000 in
set_option maxHeartbeats 800000 in
theorem state128_any (a : Option Addr) (len cap : Nat) (l : List UInt8) (seed : BitVec 32) (w : World) (hb : Bs w a l) (hl : l.length = len) (hc : len ≤ cap) (hm : cap ≤ 9223372036854775807) :
   Calls Try.prog 51 #[.slice a len cap, .int .u32 (un seed)] w fun e w' =>
     e = .returned (.tuple #[.int .u64 (un (st128 l (pair seed) (len / 16)).1), .int .u64 (un (st128 l (pair seed) (len / 16)).2)]) ∧ ∃ n, w' = w.drewN n := by
  have Hl := Lib.hid hl
  clear hl
  go_enter Try.func51, Try.ntmps51
  go_wp2_with fail
  go_loopw [0, 4, 5] (fun b x y wr => ∃ (k : Nat) (a' : Option Addr) (len' cap' : Nat), 16 * k + len' = len ∧ len' ≤ cap' ∧ cap' ≤ cap ∧ b = .slice a' len' cap' ∧ Bs w a' (l.drop (16 * k)) ∧
     x = .int .u64 (un (st128 l (pair seed) k).1) ∧ y = .int .u64 (un (st128 l (pair seed) k).2) ∧ ∃ n, wr = w.drewN n) (fun b _ _ _ => match b with | .slice _ n _ => n | _ => 0)
  case atStart => exact ⟨0, a, len, cap, by omega, hc, Nat.le_refl _, rfl, by simpa using hb, rfl, rfl, 0, rfl⟩
  case round =>
    obtain ⟨k, a', len', cap', hkl, hc', hcc, rfl, hb', rfl, rfl, n, rfl⟩ := hrel
    have Hkl := Lib.hid hkl
    have h8 : cap' ≤ 9223372036854775807 := by omega
    clear hkl
    have hdl : (l.drop (16 * k)).length = len' := by rw [List.length_drop, Hl.out]; have := Hkl.out; omega
    have Hdl := Lib.hid hdl
    clear hdl
    by_cases hlt : 16 ≤ len'
    · have hs1 : ∀ W, (Instr.slice 22 (.slice a' len' cap') none (some (.int .i64 8)) none).run Try.prog W = .ok (.slice a' 8 cap') W := fun W => slice_to a' len' cap' 8 W (by omega)
      have hs2 : ∀ W, (Instr.slice 22 (.slice a' len' cap') (some (.int .i64 8)) (some (.int .i64 16)) none).run Try.prog W = .ok (.slice (cutA a' cap' 8) 8 (cap' - 8)) W := fun W => slice_mid a' len' cap' 8 16 W (by omega) (by omega)
      have hs3 : ∀ W, (Instr.slice 22 (.slice a' len' cap') (some (.int .i64 16)) none none).run Try.prog W = .ok (.slice (cutA a' cap' 16) (len' - 16) (cap' - 16)) W := fun W => slice_from a' len' cap' 16 W (by omega)
      have h1 : ((l.drop (16 * k)).take 8).length = 8 := by rw [List.length_take, Hdl.out]; omega
      have h2 : ((l.drop (16 * k + 8)).take 8).length = 8 := by rw [List.length_take, ← List.drop_drop, List.length_drop, Hdl.out]; omega
      have Hle1 := Lib.hid (low_le8 ((l.drop (16 * k)).take 8) (by omega))
      have Hle2 := Lib.hid (low_le8 ((l.drop (16 * k + 8)).take 8) (by omega))
      have Hb1 : Bs w a' ((l.drop (16 * k)).take 8) := hb'.take 8
      have Hb2 : Bs w (cutA a' cap' 8) ((l.drop (16 * k + 8)).take 8) := by
        have := (hb'.drop cap' 8 (by rw [Hdl.out]; exact hc')).take 8
        rw [List.drop_drop] at this; exact this
      have H1 := Lib.hid h1
      have H2 := Lib.hid h2
      clear h1 h2
      generalize hS : st128 l (pair seed) k = S at *
      have HS := Lib.hid hS
      clear hS
      go_wp2_with fail
      refine (low_any _ _ _ ((l.drop (16 * k)).take 8) _ (Hb1.drewN _) H1.out (by omega)).mono ?_
      rintro e w' ⟨rfl, rfl⟩
      go_wp2_with fail
      refine (first_any _ _).mono ?_
      rintro e w' ⟨rfl, n1, rfl⟩
      go_wp2_with fail
      refine (wind27_any _ _).mono ?_
      rintro e w' ⟨rfl, n2, rfl⟩
      go_wp2_with fail
      refine (low_any _ _ _ ((l.drop (16 * k + 8)).take 8) _ (Hb2.drewN _) H2.out (by omega)).mono ?_
      rintro e w' ⟨rfl, rfl⟩
      go_wp2_with fail
      refine (second_any _ _).mono ?_
      rintro e w' ⟨rfl, n3, rfl⟩
      go_wp2_with fail
      refine (wind31_any _ _).mono ?_
      rintro e w' ⟨rfl, n4, rfl⟩
      go_wp2_with fail
      have e1 := Hle1.out
      have e2 := Hle2.out
      rw [H1.out, le8_take8] at e1
      rw [H2.out, le8_take8] at e2
      rw [e1, e2]
      refine ⟨⟨k + 1, cutA a' cap' 16, len' - 16, cap' - 16, by have := Hkl.out; omega, by omega, by omega, rfl, ?_, ?_, ?_, _, rfl⟩, by simp; omega⟩
      · have := hb'.drop cap' 16 (by rw [Hdl.out]; exact hc')
        rw [List.drop_drop] at this; exact this
      · rw [st128, HS.out]; rfl
      · rw [st128, HS.out]; rfl
    · go_wp2_with fail
      go_ret2
      exact ⟨by rw [show len / 16 = k from by have := Hkl.out; omega]; rfl, _, rfl⟩
theorem le8_zero (r : List UInt8) (h : r.length = 0) : le8 r = 0#64 := by
  rw [List.length_eq_zero_iff.1 h, le8_nil]
set_option maxRecDepth 100000 in
set_option maxHeartbeats 800000 in
theorem spec128_any (a : Option Addr) (len cap : Nat) (l : List UInt8) (seed : BitVec 32) (w : World) (hb : Bs w a l) (hl : l.length = len) (hc : len ≤ cap) (hm : cap ≤ 9223372036854775807) :
   Calls Try.prog 27 #[.slice a len cap, .int .u32 (un seed)] w fun e w' =>
     e = .returned (.tuple #[.int .u64 (un (sum128 l seed).1), .int .u64 (un (sum128 l seed).2)]) ∧ ∃ n, w' = w.drewN n := by
  have hw : IntKind.u64.wrap (len : Int) = un (BitVec.ofNat 64 len) := by rw [un_ofInt64, BitVec.ofInt_natCast]
  have Hl := Lib.hid hl
  clear hl
  have hs : ∀ W, (Instr.slice 22 (.slice a len cap) (some (.int .i64 ((len : Int) / 16 * 16))) none none).run Try.prog W = .ok (.slice (cutA a cap (16 * (len / 16))) (len - 16 * (len / 16)) (cap - 16 * (len / 16))) W := fun W => by
    have h := slice_from a len cap (16 * (len / 16)) W (by omega)
    rw [show (((16 * (len / 16) : Nat)) : Int) = (len : Int) / 16 * 16 from by omega] at h; exact h
  have hB : Bs w (cutA a cap (16 * (len / 16))) (l.drop (16 * (len / 16))) := hb.drop _ _ (by rw [Hl.out]; exact hc)
  have Hr := Lib.hid (show (l.drop (16 * (len / 16))).length = len - 16 * (len / 16) by simp [Hl.out])
  have hr : len - 16 * (len / 16) < 16 := by omega
  have hrc : len - 16 * (len / 16) ≤ cap - 16 * (len / 16) := by omega
  have Hf : Hid (sum128 l seed = fin128 (st128 l (pair seed) (len / 16)) (l.drop (16 * (len / 16))) len) := by
    show _ = _
    rw [← Hl.out]; rfl
  generalize hA : cutA a cap (16 * (len / 16)) = A at *
  generalize hR : len - 16 * (len / 16) = R at *
  generalize hC : cap - 16 * (len / 16) = C at *
  generalize hL : l.drop (16 * (len / 16)) = r at *
  clear hA hR hC hL
  by_cases h0 : R = 0
  · subst h0
    go_enter Try.func27, Try.ntmps27
    go_wp2_with fail
    refine (state128_any _ _ _ l _ _ hb Hl.out hc hm).mono ?_
    rintro e w' ⟨rfl, n1, rfl⟩
    go_wp2_with fail
    refine (finish_any _ _ _ _).mono ?_
    rintro e w' ⟨rfl, rfl⟩
    go_wp2_with fail
    go_ret2
    refine ⟨?_, _, rfl⟩
    rw [Hf.out, fin128, le8_zero r Hr.out, le8_zero (r.drop 8) (by simp [Hr.out]), first0, second0, BitVec.xor_zero, BitVec.xor_zero]
    rfl
  · have hp : 0 < R := by omega
    clear h0
    by_cases h8 : R < 8
    · have hs2 : ∀ W, (Instr.slice 22 (.slice A R C) none (some (.int .i64 (R : Int))) none).run Try.prog W = .ok (.slice A R C) W := fun W => slice_to A R C R W hrc
      go_enter Try.func27, Try.ntmps27
      go_wp2_with fail
      refine (state128_any _ _ _ l _ _ hb Hl.out hc hm).mono ?_
      rintro e w' ⟨rfl, n1, rfl⟩
      go_wp2_with fail
      refine (low_any _ _ _ r _ (hB.drewN _) Hr.out (by omega)).mono ?_
      rintro e w' ⟨rfl, rfl⟩
      go_wp2_with fail
      refine (first_any _ _).mono ?_
      rintro e w' ⟨rfl, n2, rfl⟩
      go_wp2_with fail
      refine (finish_any _ _ _ _).mono ?_
      rintro e w' ⟨rfl, rfl⟩
      go_wp2_with fail
      go_ret2
      refine ⟨?_, _, rfl⟩
      have e1 := low_le8 r (by rw [Hr.out]; omega)
      rw [Hr.out] at e1
      rw [Hf.out, fin128, le8_zero (r.drop 8) (by simp [Hr.out]; omega), second0, BitVec.xor_zero, e1]
      rfl
    · by_cases h9 : R = 8
      · subst h9
        have hs2 : ∀ W, (Instr.slice 22 (.slice A 8 C) none (some (.int .i64 8)) none).run Try.prog W = .ok (.slice A 8 C) W := fun W => slice_to A 8 C 8 W hrc
        go_enter Try.func27, Try.ntmps27
        go_wp2_with fail
        refine (state128_any _ _ _ l _ _ hb Hl.out hc hm).mono ?_
        rintro e w' ⟨rfl, n1, rfl⟩
        go_wp2_with fail
        refine (low_any _ _ _ r _ (hB.drewN _) Hr.out (by omega)).mono ?_
        rintro e w' ⟨rfl, rfl⟩
        go_wp2_with fail
        refine (first_any _ _).mono ?_
        rintro e w' ⟨rfl, n2, rfl⟩
        go_wp2_with fail
        refine (finish_any _ _ _ _).mono ?_
        rintro e w' ⟨rfl, rfl⟩
        go_wp2_with fail
        go_ret2
        refine ⟨?_, _, rfl⟩
        have e1 := low_le8 r (by rw [Hr.out]; omega)
        rw [Hr.out] at e1
        rw [Hf.out, fin128, le8_zero (r.drop 8) (by simp [Hr.out]), second0, BitVec.xor_zero, e1]
        rfl
      · have h10 : 8 < R := by omega
        have hs2 : ∀ W, (Instr.slice 22 (.slice A R C) none (some (.int .i64 8)) none).run Try.prog W = .ok (.slice A 8 C) W := fun W => slice_to A R C 8 W (by omega)
        have hs3 : ∀ W, (Instr.slice 22 (.slice A R C) (some (.int .i64 8)) none none).run Try.prog W = .ok (.slice (cutA A C 8) (R - 8) (C - 8)) W := fun W => slice_from A R C 8 W (by omega)
        have hB8 : Bs w A (r.take 8) := hB.take 8
        have hB9 : Bs w (cutA A C 8) (r.drop 8) := hB.drop C 8 (by rw [Hr.out]; exact hrc)
        have h11 : (r.take 8).length = 8 := by rw [List.length_take, Hr.out]; omega
        have h12 : (r.drop 8).length = R - 8 := by rw [List.length_drop, Hr.out]
        have H11 := Lib.hid h11
        have H12 := Lib.hid h12
        clear h11 h12 h9
        go_enter Try.func27, Try.ntmps27
        go_wp2_with fail
        refine (state128_any _ _ _ l _ _ hb Hl.out hc hm).mono ?_
        rintro e w' ⟨rfl, n1, rfl⟩
        go_wp2_with fail
        refine (low_any _ _ _ (r.drop 8) _ (hB9.drewN _) H12.out (by omega)).mono ?_
        rintro e w' ⟨rfl, rfl⟩
        go_wp2_with fail
        refine (second_any _ _).mono ?_
        rintro e w' ⟨rfl, n2, rfl⟩
        go_wp2_with fail
        refine (low_any _ _ _ (r.take 8) _ (hB8.drewN _) H11.out (by omega)).mono ?_
        rintro e w' ⟨rfl, rfl⟩
        go_wp2_with fail
        refine (first_any _ _).mono ?_
        rintro e w' ⟨rfl, n3, rfl⟩
        go_wp2_with fail
        refine (finish_any _ _ _ _).mono ?_
        rintro e w' ⟨rfl, rfl⟩
        go_wp2_with fail
        go_ret2
        refine ⟨?_, _, rfl⟩
        have e1 := low_le8 (r.take 8) (by rw [H11.out]; omega)
        rw [H11.out, le8_take8] at e1
        have e2 := low_le8 (r.drop 8) (by rw [H12.out]; omega)
        rw [H12.out] at e2
        rw [Hf.out, fin128, e1, e2]
        rfl
end Go.Proofs.Ytfnejnoldonfeaa
