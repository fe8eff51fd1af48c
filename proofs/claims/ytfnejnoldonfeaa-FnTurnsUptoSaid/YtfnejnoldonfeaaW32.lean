/-
  What the functions of the sum of 32 bits return: the program's own, and the reference's.
  Conditions: each slice's bytes lie in memory as 'Bs' says.
-/
import Derived.Test.YtfnejnoldonfeaaSlc
namespace Go.Proofs.Ytfnejnoldonfeaa
open Go.RowKit

theorem le32_any (a : Option Addr) (len cap : Nat) (l : List UInt8) (w : World) (hb : Bs w a l) (h4 : 4 ≤ l.length) (hl : l.length ≤ len) :
   Calls Try.prog 69 #[.slice a len cap] w fun e w' => e = .returned (.int .u32 (un (le4 l))) ∧ ∃ n, w' = w.drewN n := by
  obtain ⟨b, off, rfl, h0, h1, h2, h3⟩ := hb.at4 h4
  unfold le4
  generalize l.getD 0 0 = x0 at *
  generalize l.getD 1 0 = x1 at *
  generalize l.getD 2 0 = x2 at *
  generalize l.getD 3 0 = x3 at *
  have l0 : (0 : Int) < len := by omega
  have l1 : (1 : Int) < len := by omega
  have l2 : (2 : Int) < len := by omega
  have l3 : (3 : Int) < len := by omega
  clear hb
  go_enter Try.func69, Try.ntmps69
  go_wp2
  go_quiet (fail)
  go_wp2
  go_ret
  exact ⟨rfl, _, rfl⟩



set_option maxRecDepth 100000 in
set_option maxHeartbeats 400000 in
theorem sum32_any (a : Option Addr) (len cap : Nat) (l : List UInt8) (seed : BitVec 32) (w : World) (hb : Bs w a l) (hl : l.length = len) (hc : len ≤ cap) (hm : cap ≤ 9223372036854775807) :
   Calls Try.prog 45 #[.slice a len cap, .int .u32 (un seed)] w fun e w' => e = .returned (.int .u32 (un (sum32 l seed))) ∧ ∃ n, w' = w.drewN n := by
  have hw : IntKind.u32.wrap (len : Int) = un (BitVec.ofNat 32 len) := by rw [un_ofInt32, BitVec.ofInt_natCast]
  have Hl := Lib.hid hl
  clear hl
  go_enter Try.func45, Try.ntmps45
  go_wp2
  go_loopw [5, 7] (fun h i wr => ∃ k : Nat, k ≤ len / 4 ∧ i = .int .i64 k ∧ h = .int .u32 (un (st32 l seed k)) ∧ ∃ n, wr = w.drewN n) (fun _ i _ => len / 4 - (intOf i).toNat)
  case atStart => exact ⟨0, Nat.zero_le _, rfl, rfl, 0, rfl⟩
  case round =>
    obtain ⟨k, hk, rfl, rfl, n, rfl⟩ := hrel
    by_cases hlt : k < len / 4
    · have hs : ∀ W, (Instr.slice 22 (.slice a len cap) (some (.int .i64 ((k : Int) * 4))) none none).run Try.prog W = .ok (.slice (cutA a cap (4 * k)) (len - 4 * k) (cap - 4 * k)) W := fun W => by
        have h := slice_from a len cap (4 * k) W (by omega)
        rw [show (((4 * k : Nat)) : Int) = (k : Int) * 4 from by omega] at h; exact h
      go_wp2_with fail
      refine (le32_any _ _ _ (l.drop (4 * k)) _ ((hb.drop _ _ (by rw [Hl.out]; exact hc)).drewN _) (by simp; have := Hl.out; omega) (by simp; have := Hl.out; omega)).mono ?_
      rintro e w' ⟨rfl, m, rfl⟩
      go_wp2
      exact ⟨⟨k + 1, by omega, by go_num, by rw [st32, step32, ← times5]; rfl, ⟨n + m, rfl⟩⟩, by simp [intOf]; omega⟩
    · have Hk := Lib.hid (show k = len / 4 by omega)
      have hs : ∀ W, (Instr.slice 22 (.slice a len cap) (some (.int .i64 ((len : Int) / 4 * 4))) none none).run Try.prog W = .ok (.slice (cutA a cap (4 * (len / 4))) (len - 4 * (len / 4)) (cap - 4 * (len / 4))) W := fun W => by
        have h := slice_from a len cap (4 * (len / 4)) W (by omega)
        rw [show (((4 * (len / 4) : Nat)) : Int) = (len : Int) / 4 * 4 from by omega] at h; exact h
      have hB : Bs w (cutA a cap (4 * (len / 4))) (l.drop (4 * (len / 4))) := hb.drop _ _ (by rw [Hl.out]; exact hc)
      have Hr := Lib.hid (show (l.drop (4 * (len / 4))).length = len - 4 * (len / 4) by simp [Hl.out])
      have hr4 : (l.drop (4 * (len / 4))).length < 4 := by rw [Hr.out]; omega
      have Hf : Hid (sum32 l seed = fin32 (st32 l seed k) (l.drop (4 * (len / 4))) len) := by
        show _ = _
        rw [Hk.out, ← Hl.out]; rfl
      generalize l.drop (4 * (len / 4)) = r at *
      generalize cutA a cap (4 * (len / 4)) = A at *
      generalize cap - 4 * (len / 4) = C at *
      rcases short4 r hr4 with rfl | ⟨x, rfl⟩ | ⟨x, y, rfl⟩ | ⟨x, y, z, rfl⟩
      · rw [show len - 4 * (len / 4) = 0 from Hr.out.symm] at hs
        clear hr4 hB
        go_wp2_with fail
        go_ret
        exact ⟨by rw [Hf.out, fin32_0]; rfl, _, rfl⟩
      · rw [show len - 4 * (len / 4) = 1 from Hr.out.symm] at hs
        obtain ⟨b, off, rfl, hx⟩ := hB.resolve_left (by simp)
        have h0 : w.cell? ⟨b, off, none⟩ = some (.int .u8 (x.toNat : Int)) := hx 0 (by simp)
        have e1 : bits .and .i64 1 3 = 1 := by decide
        clear hr4 hB hx
        go_wp2_with fail
        go_ret
        exact ⟨by rw [Hf.out, fin32, le4_1]; rfl, _, rfl⟩
      · rw [show len - 4 * (len / 4) = 2 from Hr.out.symm] at hs
        obtain ⟨b, off, rfl, hx⟩ := hB.resolve_left (by simp)
        have h0 : w.cell? ⟨b, off, none⟩ = some (.int .u8 (x.toNat : Int)) := hx 0 (by simp)
        have h1 : w.cell? ⟨b, off + 1, none⟩ = some (.int .u8 (y.toNat : Int)) := hx 1 (by simp)
        have e1 : bits .and .i64 2 3 = 2 := by decide
        clear hr4 hB hx
        go_wp2_with fail
        go_ret
        exact ⟨by rw [Hf.out, fin32, le4_2]; rfl, _, rfl⟩
      · rw [show len - 4 * (len / 4) = 3 from Hr.out.symm] at hs
        obtain ⟨b, off, rfl, hx⟩ := hB.resolve_left (by simp)
        have h0 : w.cell? ⟨b, off, none⟩ = some (.int .u8 (x.toNat : Int)) := hx 0 (by simp)
        have h1 : w.cell? ⟨b, off + 1, none⟩ = some (.int .u8 (y.toNat : Int)) := hx 1 (by simp)
        have h2 : w.cell? ⟨b, off + 2, none⟩ = some (.int .u8 (z.toNat : Int)) := hx 2 (by simp)
        have e1 : bits .and .i64 3 3 = 3 := by decide
        clear hr4 hB hx
        go_wp2_with fail
        go_ret
        exact ⟨by rw [Hf.out, fin32, le4_3]; rfl, _, rfl⟩
end Go.Proofs.Ytfnejnoldonfeaa
