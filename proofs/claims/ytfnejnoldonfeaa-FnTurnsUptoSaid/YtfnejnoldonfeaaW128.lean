/-
  What the functions of the sum of 128 bits return: le64, fmix64, bmix.
  Conditions: each slice's bytes lie in memory as 'Bs' says.
-/
import Derived.Test.YtfnejnoldonfeaaReg
import Derived.Test.YtfnejnoldonfeaaW32
import Derived.Deep.RegionWith
namespace Go.Proofs.Ytfnejnoldonfeaa
open Go.RowKit

theorem le64_any (a : Option Addr) (len cap : Nat) (l : List UInt8) (w : World) (hb : Bs w a l) (h8 : 8 ≤ l.length) (hl : l.length ≤ len) (hc : len ≤ cap) :
   Calls Try.prog 76 #[.slice a len cap] w fun e w' => e = .returned (.int .u64 (un (le8 l))) ∧ ∃ n, w' = w.drewN n := by
  have hs : ∀ W, (Instr.slice 22 (.slice a len cap) (some (.int .i64 4)) none none).run Try.prog W = .ok (.slice (cutA a cap 4) (len - 4) (cap - 4)) W := fun W => slice_from a len cap 4 W (by omega)
  have Hb := Lib.hid hb
  have hb4 : ∀ n, Bs (w.drewN n) (cutA a cap 4) (l.drop 4) := fun n => (hb.drop cap 4 (by omega)).drewN n
  have Hb4 := Lib.hid hb4
  have e1 : (l.drop 4).length = l.length - 4 := by simp
  have H1 := Lib.hid e1
  clear hb hb4 e1
  unfold le8
  go_enter Try.func76, Try.ntmps76
  go_wp2_with fail
  go_quiet ((first
    | (go_at_call_of 69 (Value.slice a len cap); exact Calls.quiet_of (le32_any a len cap l _ (Hb.out.drewN _) (by omega) hl))
    | (go_at_call 69; exact Calls.quiet_of (le32_any _ _ _ (l.drop 4) _ (Hb4.out _) (by rw [H1.out]; omega) (by rw [H1.out]; omega)))))
  go_wp2_with fail
  go_ret
  exact ⟨rfl, _, rfl⟩
theorem fmix64_any (x : BitVec 64) (w : World) : Calls Try.prog 78 #[.int .u64 (un x)] w fun e w' => e = .returned (.int .u64 (un (blend x))) ∧ w = w' := by
  go_enter Try.func78, Try.ntmps78
  go_wp2_with fail
  go_ret
  exact ⟨rfl, rfl⟩
theorem size128_any (v : Value) (w : World) : Calls Try.prog 77 #[v] w fun e w' => e = .returned (.int .i64 16) ∧ w = w' := by
  go_enter Try.func77, Try.ntmps77
  go_wp2_with fail
  go_ret
  exact ⟨rfl, rfl⟩
set_option maxRecDepth 100000 in
set_option maxHeartbeats 800000 in
theorem bmix128_any (g : Nat) (cs : Array Value) (h1 h2 : BitVec 64) (a : Option Addr) (len cap : Nat) (l : List UInt8) (w : World) (hg : w.heap[g]? = some (.cells cs 110 (0, 0)))
    (e20 : cs[20]? = some (.int .u64 (un h1))) (e21 : cs[21]? = some (.int .u64 (un h2))) (hb : Bs w a l) (hl : l.length = len) (hc : len ≤ cap) (hm : cap ≤ 9223372036854775807) :
   Calls Try.prog 70 #[.pointer (some ⟨g, 0, none⟩), .slice a len cap] w fun e w' => e = .returned (.slice (cutA a cap (16 * (len / 16))) (len - 16 * (len / 16)) (cap - 16 * (len / 16))) ∧
     ∃ n, w' = ((w.drewN n).setCell ⟨g, 20, none⟩ (.int .u64 (un (st128 l (h1, h2) (len / 16)).1))).setCell ⟨g, 21, none⟩ (.int .u64 (un (st128 l (h1, h2) (len / 16)).2)) := by
  have c20 : w.cell? ⟨g, 20, none⟩ = some (.int .u64 (un h1)) := by rw [cell_of_row w g 20 cs 110 (0, 0) hg, e20]
  have c21 : w.cell? ⟨g, 21, none⟩ = some (.int .u64 (un h2)) := by rw [cell_of_row w g 21 cs 110 (0, 0) hg, e21]
  have f20 : w.frozen? ⟨g, 20, none⟩ = false := by simp [World.frozen?, hg]
  have f21 : w.frozen? ⟨g, 21, none⟩ = false := by simp [World.frozen?, hg]
  have Hl := Lib.hid hl
  have Hb := Lib.hid hb
  clear hl hb hg e20 e21
  go_enter Try.func70, Try.ntmps70
  go_wp2_with fail
  go_quiet (fail)
  go_wp2_with fail
  go_loopw [5, 6, 8] (fun x y i wr => ∃ k : Nat, k ≤ len / 16 ∧ i = .int .i64 k ∧ x = .int .u64 (un (st128 l (h1, h2) k).1) ∧ y = .int .u64 (un (st128 l (h1, h2) k).2) ∧ ∃ n, wr = w.drewN n) (fun _ _ i _ => len / 16 - (intOf i).toNat)
  case atStart => exact ⟨0, Nat.zero_le _, rfl, rfl, rfl, _, rfl⟩
  case round =>
    obtain ⟨k, hk, rfl, rfl, rfl, n, hn⟩ := hrel
    by_cases hlt : k < len / 16
    · have Hn := Lib.hid hn
      clear hn c20 c21 f20 f21
      have hs1 : ∀ W, (Instr.slice 22 (.slice a len cap) (some (.int .i64 ((k : Int) * 16))) none none).run Try.prog W = .ok (.slice (cutA a cap (16 * k)) (len - 16 * k) (cap - 16 * k)) W := fun W => by
        have h := slice_from a len cap (16 * k) W (by omega)
        rw [show (((16 * k : Nat)) : Int) = (k : Int) * 16 from by omega] at h; exact h
      have hs2 : ∀ W, (Instr.slice 22 (.slice a len cap) (some (.int .i64 ((k : Int) * 16 + 8))) none none).run Try.prog W = .ok (.slice (cutA a cap (16 * k + 8)) (len - (16 * k + 8)) (cap - (16 * k + 8))) W := fun W => by
        have h := slice_from a len cap (16 * k + 8) W (by omega)
        rw [show (((16 * k + 8 : Nat)) : Int) = (k : Int) * 16 + 8 from by omega] at h; exact h
      have hb1 : ∀ m, Bs (wr.drewN m) (cutA a cap (16 * k)) (l.drop (16 * k)) := fun m => by rw [Hn.out]; exact ((Hb.out.drop cap (16 * k) (by rw [Hl.out]; exact hc)).drewN n).drewN m
      have hb2 : ∀ m, Bs (wr.drewN m) (cutA a cap (16 * k + 8)) (l.drop (16 * k + 8)) := fun m => by rw [Hn.out]; exact ((Hb.out.drop cap (16 * k + 8) (by rw [Hl.out]; exact hc)).drewN n).drewN m
      have e1 : (l.drop (16 * k)).length = len - 16 * k := by rw [List.length_drop, Hl.out]
      have e2 : (l.drop (16 * k + 8)).length = len - (16 * k + 8) := by rw [List.length_drop, Hl.out]
      have Hb1 := Lib.hid hb1
      have Hb2 := Lib.hid hb2
      have H1 := Lib.hid e1
      have H2 := Lib.hid e2
      clear hb1 hb2 e1 e2
      have w1 : IntKind.i64.wrap ((k : Int) * 16) = (k : Int) * 16 := IntWalk.i64_in _ (by omega)
      have w2 : IntKind.i64.wrap ((k : Int) * 16 + 8) = (k : Int) * 16 + 8 := IntWalk.i64_in _ (by omega)
      generalize cutA a cap (16 * k) = A1 at *
      generalize cutA a cap (16 * k + 8) = A2 at *
      generalize hS : st128 l (h1, h2) k = S at *
      have HS := Lib.hid hS
      clear hS
      go_wp2_with fail
      go_quiet ((first
        | (go_at_call_of 76 A1; exact Calls.quiet_of (le64_any _ _ _ (l.drop (16 * k)) _ (Hb1.out _) (by rw [H1.out]; omega) (by rw [H1.out]; omega) (by omega)))
        | (go_at_call_of 76 A2; exact Calls.quiet_of (le64_any _ _ _ (l.drop (16 * k + 8)) _ (Hb2.out _) (by rw [H2.out]; omega) (by rw [H2.out]; omega) (by omega)))))
      clear w1 w2
      go_wp2_with fail
      refine ⟨⟨k + 1, by omega, by go_num, ?_, ?_, n + nq, by rw [Hn.out, World.drewN_drewN]⟩, by simp [intOf]; omega⟩
      · rw [st128, HS.out]; rfl
      · rw [st128, HS.out]; rfl
    · subst hn
      have Hk := Lib.hid (show k = len / 16 by omega)
      have hs : ∀ W, (Instr.slice 22 (.slice a len cap) (some (.int .i64 ((len : Int) / 16 * 16))) none none).run Try.prog W = .ok (.slice (cutA a cap (16 * (len / 16))) (len - 16 * (len / 16)) (cap - 16 * (len / 16))) W := fun W => by
        have h := slice_from a len cap (16 * (len / 16)) W (by omega)
        rw [show (((16 * (len / 16) : Nat)) : Int) = (len : Int) / 16 * 16 from by omega] at h; exact h
      go_wp2_with fail
      refine (size128_any _ _).mono ?_
      rintro e w' ⟨rfl, rfl⟩
      go_wp2_with fail
      go_ret
      refine ⟨rfl, n, ?_⟩
      rw [← Hk.out]
end Go.Proofs.Ytfnejnoldonfeaa
