/-
  The mixers and the sums of a digest in memory.
  Conditions: the digest lies in memory as 'Dig' says.
-/
import Derived.Test.YtfnejnoldonfeaaH1
import Derived.Test.YtfnejnoldonfeaaS32
namespace Go.Proofs.Ytfnejnoldonfeaa
open Go.RowKit

theorem bmixD128 (g clen : Nat) (tail bm : Value) (buf : List UInt8) (seed : BitVec 32) (h : BitVec 64 × BitVec 64) (a : Option Addr) (len cap : Nat) (l : List UInt8) (w : World)
    (d : Dig w g 110 clen tail buf seed bm [.int .u64 (un h.1), .int .u64 (un h.2)]) (hb : Bs w a l) (hl : l.length = len) (hc : len ≤ cap) (hm : cap ≤ 9223372036854775807) :
   Calls Try.prog 70 #[.pointer (some ⟨g, 0, none⟩), .slice a len cap] w fun e w' => e = .returned (.slice (cutA a cap (16 * (len / 16))) (len - 16 * (len / 16)) (cap - 16 * (len / 16))) ∧
     Dig w' g 110 clen tail buf seed bm [.int .u64 (un (st128 l h (len / 16)).1), .int .u64 (un (st128 l h (len / 16)).2)] ∧ Only g w w' := by
  refine (bmix128_any g _ h.1 h.2 a len cap l w d.heap (by rw [List.getElem?_toArray]; exact dc_hi d.len 2) (by rw [List.getElem?_toArray]; exact dc_hi d.len 3) hb hl hc hm).mono ?_
  rintro e w' ⟨rfl, n, rfl⟩
  exact ⟨rfl, ((d.drewN n).set20 0 _).set20 1 _, (((Only.refl g w).drewN n).setCell 20 _).setCell 21 _⟩
theorem size32_any (v : Value) (w : World) : Calls Try.prog 100 #[v] w fun e w' => e = .returned (.int .i64 4) ∧ w = w' := by
  go_enter Try.func100, Try.ntmps100
  go_wp2_with fail
  go_ret
  exact ⟨rfl, rfl⟩
set_option maxRecDepth 100000 in
set_option maxHeartbeats 800000 in
theorem bmixD32 (g clen : Nat) (tail bm : Value) (buf : List UInt8) (seed h : BitVec 32) (a : Option Addr) (len cap : Nat) (l : List UInt8) (w : World)
    (d : Dig w g 116 clen tail buf seed bm [.int .u32 (un h)]) (hb : Bs w a l) (hl : l.length = len) (hc : len ≤ cap) (hm : cap ≤ 9223372036854775807) :
   Calls Try.prog 103 #[.pointer (some ⟨g, 0, none⟩), .slice a len cap] w fun e w' => e = .returned (.slice (cutA a cap (4 * (len / 4))) (len - 4 * (len / 4)) (cap - 4 * (len / 4))) ∧
     Dig w' g 116 clen tail buf seed bm [.int .u32 (un (st32 l h (len / 4)))] ∧ Only g w w' := by
  have c20 : w.cell? ⟨g, 20, none⟩ = some (.int .u32 (un h)) := d.c20
  have f20 := d.free 20
  have D := Lib.hid d
  have Hl := Lib.hid hl
  have Hb := Lib.hid hb
  clear hl hb d
  go_enter Try.func103, Try.ntmps103
  go_wp2_with fail
  go_loopw [5, 7] (fun x i wr => ∃ k : Nat, k ≤ len / 4 ∧ i = .int .i64 k ∧ x = .int .u32 (un (st32 l h k)) ∧ ∃ n, wr = w.drewN n) (fun _ i _ => len / 4 - (intOf i).toNat)
  case atStart => exact ⟨0, Nat.zero_le _, rfl, rfl, 0, rfl⟩
  case round =>
    obtain ⟨k, hk, rfl, rfl, n, rfl⟩ := hrel
    by_cases hlt : k < len / 4
    · have hs : ∀ W, (Instr.slice 22 (.slice a len cap) (some (.int .i64 ((k : Int) * 4))) none none).run Try.prog W = .ok (.slice (cutA a cap (4 * k)) (len - 4 * k) (cap - 4 * k)) W := fun W => by
        have h := slice_from a len cap (4 * k) W (by omega)
        rw [show (((4 * k : Nat)) : Int) = (k : Int) * 4 from by omega] at h; exact h
      go_wp2_with fail
      refine (le32_any _ _ _ (l.drop (4 * k)) _ ((Hb.out.drop _ _ (by rw [Hl.out]; exact hc)).drewN _) (by simp; have := Hl.out; omega) (by simp; have := Hl.out; omega)).mono ?_
      rintro e w' ⟨rfl, m, rfl⟩
      go_wp2_with fail
      exact ⟨⟨k + 1, by omega, by go_num, by rw [st32, step32, ← times5]; rfl, ⟨n + m, rfl⟩⟩, by simp [intOf]; omega⟩
    · have Hk := Lib.hid (show k = len / 4 by omega)
      have hs : ∀ W, (Instr.slice 22 (.slice a len cap) (some (.int .i64 ((len : Int) / 4 * 4))) none none).run Try.prog W = .ok (.slice (cutA a cap (4 * (len / 4))) (len - 4 * (len / 4)) (cap - 4 * (len / 4))) W := fun W => by
        have h := slice_from a len cap (4 * (len / 4)) W (by omega)
        rw [show (((4 * (len / 4) : Nat)) : Int) = (len : Int) / 4 * 4 from by omega] at h; exact h
      go_wp2_with fail
      refine (size32_any _ _).mono ?_
      rintro e w' ⟨rfl, rfl⟩
      go_wp2_with fail
      go_ret
      refine ⟨rfl, ?_, ((Only.refl g w).drewN n).setCell 20 _⟩
      rw [← Hk.out]
      exact (D.out.drewN n).set20 0 _
/-- What digest32.Sum32 returns. -/
theorem dsum32_any (g clen : Nat) (bm : Value) (buf : List UInt8) (seed h : BitVec 32) (A : Option Addr) (t : List UInt8) (tl tc : Nat) (w : World) (d : Dig w g 116 clen (.slice A tl tc) buf seed bm [.int .u32 (un h)])
    (hb : Bs w A t) (hl : t.length = tl) (ht : tl < 4) : Calls Try.prog 102 #[.pointer (some ⟨g, 0, none⟩)] w fun e w' => e = .returned (.int .u32 (un (fin32 h t clen))) ∧ ∃ n, w' = w.drewN n := by
  have hw : IntKind.u32.wrap (clen : Int) = un (BitVec.ofNat 32 clen) := by rw [un_ofInt32, BitVec.ofInt_natCast]
  have c0 := d.c0
  have c1 := d.c1
  have c20 : w.cell? ⟨g, 20, none⟩ = some (.int .u32 (un h)) := d.c20
  clear d
  subst hl
  rcases short4 t ht with rfl | ⟨x, rfl⟩ | ⟨x, y, rfl⟩ | ⟨x, y, z, rfl⟩
  · have e1 : bits .and .i64 0 3 = 0 := by decide
    rw [fin32_0]
    clear hb ht
    simp only [List.length_nil] at c1
    go_enter Try.func102, Try.ntmps102
    go_wp2_with fail
    go_ret
    exact ⟨rfl, 0, rfl⟩
  · have e1 : bits .and .i64 1 3 = 1 := by decide
    obtain ⟨b, off, rfl, hx⟩ := hb.resolve_left (by simp)
    have h0 : w.cell? ⟨b, off, none⟩ = some (.int .u8 (x.toNat : Int)) := hx 0 (by simp)
    rw [fin32, le4_1]
    clear hb hx ht
    simp only [List.length_cons, List.length_nil, Nat.zero_add] at c1
    go_enter Try.func102, Try.ntmps102
    go_wp2_with fail
    go_ret
    exact ⟨rfl, 0, rfl⟩
  · have e1 : bits .and .i64 2 3 = 2 := by decide
    obtain ⟨b, off, rfl, hx⟩ := hb.resolve_left (by simp)
    have h0 : w.cell? ⟨b, off, none⟩ = some (.int .u8 (x.toNat : Int)) := hx 0 (by simp)
    have h1 : w.cell? ⟨b, off + 1, none⟩ = some (.int .u8 (y.toNat : Int)) := hx 1 (by simp)
    rw [fin32, le4_2]
    clear hb hx ht
    simp only [List.length_cons, List.length_nil, Nat.zero_add, Nat.reduceAdd] at c1
    go_enter Try.func102, Try.ntmps102
    go_wp2_with fail
    go_ret
    exact ⟨rfl, 0, rfl⟩
  · have e1 : bits .and .i64 3 3 = 3 := by decide
    obtain ⟨b, off, rfl, hx⟩ := hb.resolve_left (by simp)
    have h0 : w.cell? ⟨b, off, none⟩ = some (.int .u8 (x.toNat : Int)) := hx 0 (by simp)
    have h1 : w.cell? ⟨b, off + 1, none⟩ = some (.int .u8 (y.toNat : Int)) := hx 1 (by simp)
    have h2 : w.cell? ⟨b, off + 2, none⟩ = some (.int .u8 (z.toNat : Int)) := hx 2 (by simp)
    rw [fin32, le4_3]
    clear hb hx ht
    simp only [List.length_cons, List.length_nil, Nat.zero_add, Nat.reduceAdd] at c1
    go_enter Try.func102, Try.ntmps102
    go_wp2_with fail
    go_ret
    exact ⟨rfl, 0, rfl⟩
end Go.Proofs.Ytfnejnoldonfeaa
