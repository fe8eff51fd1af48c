/-
  What the reference's functions of the sum of 32 bits return, and the program's thin function; 'works'.
  Conditions: each slice's bytes lie in memory as 'Bs' says.
-/
import Derived.Test.YtfnejnoldonfeaaW32
namespace Go.Proofs.Ytfnejnoldonfeaa
open Go.RowKit

theorem mul_two_pow (x : BitVec 64) (k : Nat) : x * BitVec.ofInt 64 (2 ^ k) = x <<< k := by
  rw [← mul_pow x k, ← BitVec.ofInt_natCast, show (((2 ^ k : Nat)) : Int) = 2 ^ k from by simp]

theorem low_any (a : Option Addr) (len cap : Nat) (l : List UInt8) (w : World) (hb : Bs w a l) (hl : l.length = len) (hc : len ≤ 8) :
   Calls Try.prog 47 #[.slice a len cap] w fun e w' => e = .returned (.int .u64 (un (lowk l len))) ∧ w = w' := by
  have Hl := Lib.hid hl
  clear hl
  go_enter Try.func47, Try.ntmps47
  go_wp2
  go_loop [3, 8] (fun h i => ∃ k : Nat, k ≤ len ∧ i = .int .i64 k ∧ h = .int .u64 (un (lowk l k))) (fun _ i => len - (intOf i).toNat)
  case atStart => exact ⟨0, Nat.zero_le _, rfl, rfl⟩
  case round =>
    obtain ⟨k, hk, rfl, rfl⟩ := hrel
    by_cases hlt : k < len
    · obtain ⟨b, off, rfl, hx⟩ := hb.resolve_left (by intro h; have := Hl.out; simp [h] at this; omega)
      have h0 := hx k (by have := Hl.out; omega)
      have Hx := Lib.hid hx
      clear hx hb
      generalize hg : l.getD k 0 = x at *
      have Hg := Lib.hid hg
      clear hg
      go_wp2
      exact ⟨⟨k + 1, by omega, by go_num, by rw [mul_two_pow, lowk, Hg.out]⟩, by simp [intOf]; omega⟩
    · go_wp2
      go_ret
      exact ⟨by rw [show len = k from by omega]; rfl, rfl⟩

theorem turn13_any (x : BitVec 32) (w : World) : Calls Try.prog 43 #[.int .u32 (un x), .int .i64 13] w fun e w' => e = .returned (.int .u32 (un (rotl x 13))) ∧ ∃ n, w' = w.drewN n := by
  go_enter Try.func43, Try.ntmps43
  go_wp2
  go_quiet (fail)
  go_wp2
  go_ret
  exact ⟨rfl, _, rfl⟩
theorem turn15_any (x : BitVec 32) (w : World) : Calls Try.prog 43 #[.int .u32 (un x), .int .i64 15] w fun e w' => e = .returned (.int .u32 (un (rotl x 15))) ∧ ∃ n, w' = w.drewN n := by
  go_enter Try.func43, Try.ntmps43
  go_wp2
  go_quiet (fail)
  go_wp2
  go_ret
  exact ⟨rfl, _, rfl⟩
theorem turn17_any (x : BitVec 32) (w : World) : Calls Try.prog 43 #[.int .u32 (un x), .int .i64 17] w fun e w' => e = .returned (.int .u32 (un (rotl x 17))) ∧ ∃ n, w' = w.drewN n := by
  go_enter Try.func43, Try.ntmps43
  go_wp2
  go_quiet (fail)
  go_wp2
  go_ret
  exact ⟨rfl, _, rfl⟩
theorem turn19_any (x : BitVec 32) (w : World) : Calls Try.prog 43 #[.int .u32 (un x), .int .i64 19] w fun e w' => e = .returned (.int .u32 (un (rotl x 19))) ∧ ∃ n, w' = w.drewN n := by
  go_enter Try.func43, Try.ntmps43
  go_wp2
  go_quiet (fail)
  go_wp2
  go_ret
  exact ⟨rfl, _, rfl⟩
theorem word_any (x : BitVec 32) (w : World) : Calls Try.prog 46 #[.int .u32 (un x)] w fun e w' => e = .returned (.int .u32 (un (word x))) ∧ ∃ n, w' = w.drewN n := by
  go_enter Try.func46, Try.ntmps46
  go_wp2_with fail
  refine (turn15_any _ _).mono ?_
  rintro e w' ⟨rfl, n, rfl⟩
  go_wp2_with fail
  go_ret
  exact ⟨rfl, _, rfl⟩
theorem mix_any (x : BitVec 32) (w : World) : Calls Try.prog 48 #[.int .u32 (un x)] w fun e w' => e = .returned (.int .u32 (un (mix x))) ∧ w = w' := by
  go_enter Try.func48, Try.ntmps48
  go_wp2_with fail
  go_ret
  exact ⟨rfl, rfl⟩
set_option maxRecDepth 100000 in
theorem state32_any (a : Option Addr) (len cap : Nat) (l : List UInt8) (seed : BitVec 32) (w : World) (hb : Bs w a l) (hl : l.length = len) (hc : len ≤ cap) (hm : cap ≤ 9223372036854775807) :
   Calls Try.prog 44 #[.slice a len cap, .int .u32 (un seed)] w fun e w' => e = .returned (.int .u32 (un (st32 l seed (len / 4)))) ∧ ∃ n, w' = w.drewN n := by
  have Hl := Lib.hid hl
  clear hl
  go_enter Try.func44, Try.ntmps44
  go_wp2
  go_loopw [0, 5] (fun b h wr => ∃ (k : Nat) (a' : Option Addr) (len' cap' : Nat), 4 * k + len' = len ∧ len' ≤ cap' ∧ cap' ≤ cap ∧ b = .slice a' len' cap' ∧ Bs w a' (l.drop (4 * k)) ∧ h = .int .u32 (un (st32 l seed k)) ∧ ∃ n, wr = w.drewN n) (fun b _ _ => match b with | .slice _ n _ => n | _ => 0)
  case atStart => exact ⟨0, a, len, cap, by omega, hc, Nat.le_refl _, rfl, by simpa using hb, rfl, 0, rfl⟩
  case round =>
    obtain ⟨k, a', len', cap', hkl, hc', hcc, rfl, hb', rfl, n, rfl⟩ := hrel
    have Hkl := Lib.hid hkl
    have h8 : cap' ≤ 9223372036854775807 := by omega
    clear hkl
    have hdl : (l.drop (4 * k)).length = len' := by rw [List.length_drop, Hl.out]; have := Hkl.out; omega
    have Hdl := Lib.hid hdl
    clear hdl
    by_cases hlt : 4 ≤ len'
    · have hs1 := slice_to a' len' cap' 4
      have hs1 : ∀ W, (Instr.slice 22 (.slice a' len' cap') none (some (.int .i64 4)) none).run Try.prog W = .ok (.slice a' 4 cap') W := fun W => slice_to a' len' cap' 4 W (by omega)
      have hs2 : ∀ W, (Instr.slice 22 (.slice a' len' cap') (some (.int .i64 4)) none none).run Try.prog W = .ok (.slice (cutA a' cap' 4) (len' - 4) (cap' - 4)) W := fun W => slice_from a' len' cap' 4 W (by omega)
      have h4 : ((l.drop (4 * k)).take 4).length = 4 := by rw [List.length_take, Hdl.out]; omega
      have Hle := Lib.hid (low_le4 ((l.drop (4 * k)).take 4) (by omega))
      have Hb4 : Bs w a' ((l.drop (4 * k)).take 4) := hb'.take 4
      have H4 := Lib.hid h4
      clear h4
      go_wp2_with fail
      refine (low_any _ _ _ ((l.drop (4 * k)).take 4) _ (Hb4.drewN _) H4.out (by omega)).mono ?_
      rintro e w' ⟨rfl, rfl⟩
      go_wp2_with fail
      refine (word_any _ _).mono ?_
      rintro e w' ⟨rfl, n1, rfl⟩
      go_wp2_with fail
      refine (turn13_any _ _).mono ?_
      rintro e w' ⟨rfl, n2, rfl⟩
      go_wp2_with fail
      refine ⟨⟨k + 1, cutA a' cap' 4, len' - 4, cap' - 4, by have := Hkl.out; omega, by omega, by omega, rfl, ?_, ?_, _, rfl⟩, by simp; omega⟩
      · have := hb'.drop cap' 4 (by rw [Hdl.out]; exact hc')
        rw [List.drop_drop] at this; exact this
      · have e := Hle.out
        rw [H4.out, le4_take4] at e
        rw [e]; rfl
    · go_wp2_with fail
      go_ret
      exact ⟨by rw [show len / 4 = k from by have := Hkl.out; omega]; rfl, _, rfl⟩
set_option maxRecDepth 100000 in
theorem spec32_any (a : Option Addr) (len cap : Nat) (l : List UInt8) (seed : BitVec 32) (w : World) (hb : Bs w a l) (hl : l.length = len) (hc : len ≤ cap) (hm : cap ≤ 9223372036854775807) :
   Calls Try.prog 23 #[.slice a len cap, .int .u32 (un seed)] w fun e w' => e = .returned (.int .u32 (un (sum32 l seed))) ∧ ∃ n, w' = w.drewN n := by
  have hw : IntKind.u32.wrap (len : Int) = un (BitVec.ofNat 32 len) := by rw [un_ofInt32, BitVec.ofInt_natCast]
  have Hl := Lib.hid hl
  clear hl
  have hs : ∀ W, (Instr.slice 22 (.slice a len cap) (some (.int .i64 ((len : Int) / 4 * 4))) none none).run Try.prog W = .ok (.slice (cutA a cap (4 * (len / 4))) (len - 4 * (len / 4)) (cap - 4 * (len / 4))) W := fun W => by
    have h := slice_from a len cap (4 * (len / 4)) W (by omega)
    rw [show (((4 * (len / 4) : Nat)) : Int) = (len : Int) / 4 * 4 from by omega] at h; exact h
  have hB : Bs w (cutA a cap (4 * (len / 4))) (l.drop (4 * (len / 4))) := hb.drop _ _ (by rw [Hl.out]; exact hc)
  have Hr := Lib.hid (show (l.drop (4 * (len / 4))).length = len - 4 * (len / 4) by simp [Hl.out])
  have hr4 : len - 4 * (len / 4) < 4 := by omega
  have Hf : Hid (sum32 l seed = fin32 (st32 l seed (len / 4)) (l.drop (4 * (len / 4))) len) := by
    show _ = _
    rw [← Hl.out]; rfl
  have Hle : l.length ≥ 0 := by omega
  generalize hR : len - 4 * (len / 4) = R at *
  clear hR
  by_cases hz : R = 0
  · subst hz
    go_enter Try.func23, Try.ntmps23
    go_wp2_with fail
    refine (state32_any _ _ _ l _ _ hb Hl.out hc hm).mono ?_
    rintro e w' ⟨rfl, n1, rfl⟩
    go_wp2_with fail
    refine (mix_any _ _).mono ?_
    rintro e w' ⟨rfl, rfl⟩
    go_wp2_with fail
    go_ret
    refine ⟨?_, _, rfl⟩
    have h0 := Hr.out
    rw [List.length_eq_zero_iff] at h0
    rw [Hf.out, h0, fin32_0]; rfl
  · have hp : 0 < R := by omega
    clear hz
    go_enter Try.func23, Try.ntmps23
    go_wp2_with fail
    refine (state32_any _ _ _ l _ _ hb Hl.out hc hm).mono ?_
    rintro e w' ⟨rfl, n1, rfl⟩
    go_wp2_with fail
    refine (low_any _ _ _ _ _ (hB.drewN _) Hr.out (by omega)).mono ?_
    rintro e w' ⟨rfl, rfl⟩
    go_wp2_with fail
    refine (word_any _ _).mono ?_
    rintro e w' ⟨rfl, n2, rfl⟩
    go_wp2_with fail
    refine (mix_any _ _).mono ?_
    rintro e w' ⟨rfl, rfl⟩
    go_wp2_with fail
    go_ret
    refine ⟨?_, _, rfl⟩
    have e := low_le4 (l.drop (4 * (len / 4))) (by rw [Hr.out]; omega)
    rw [Hr.out] at e
    rw [Hf.out, e]; rfl
theorem impl32_any (a : Option Addr) (len cap : Nat) (l : List UInt8) (seed : BitVec 32) (w : World) (hb : Bs w a l) (hl : l.length = len) (hc : len ≤ cap) (hm : cap ≤ 9223372036854775807) :
   Calls Try.prog 21 #[.slice a len cap, .int .u32 (un seed)] w fun e w' => e = .returned (.int .u32 (un (sum32 l seed))) ∧ ∃ n, w' = w.drewN n := by
  have Hl := Lib.hid hl
  clear hl
  go_enter Try.func21, Try.ntmps21
  go_wp2_with fail
  refine (sum32_any _ _ _ l _ _ hb Hl.out hc hm).mono ?_
  rintro e w' ⟨rfl, n1, rfl⟩
  go_wp2_with fail
  go_ret
  exact ⟨rfl, _, rfl⟩
theorem Bs_one (w : World) (x : UInt8) (n : Nat) (hn : w.heap.size = n) : Bs (w.alloc (.cells #[.int .u8 (x.toNat : Int)] 5)) (some ⟨n, 0, none⟩) [x] := by
  refine .inr ⟨_, _, rfl, fun i hi => ?_⟩
  obtain rfl : i = 0 := by simpa using hi
  subst hn
  show (match (w.heap.push _)[w.heap.size]? with | some (.cells c _ _) => c[0 + 0]? | _ => none) = _
  simp
theorem works_any (w : World) : Calls Try.prog 22 #[] w fun e w' => e = .returned (.bool true) ∧ Below w.heap.size w w' := by
  go_enter Try.func22, Try.ntmps22
  go_wp2_with fail
  refine (impl32_any _ 1 1 [1] 2#32 _ (Bs_one w 1 _ rfl) rfl (by decide) (by decide)).mono ?_
  rintro e w' ⟨rfl, n1, rfl⟩
  go_wp2_with fail
  refine (spec32_any _ 1 1 [1] 2#32 _ (Bs_one _ 1 _ (by simp)) rfl (by decide) (by decide)).mono ?_
  rintro e w' ⟨rfl, n2, rfl⟩
  go_wp2_with fail
  go_ret
  exact ⟨rfl, below_drewN ((below_drewN ((Below.refl _ _).alloc (Nat.le_refl _) _) _).alloc (by simp) _) _⟩
end Go.Proofs.Ytfnejnoldonfeaa
