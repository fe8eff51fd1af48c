/-
  Write of a digest: nothing is pending.
  Conditions: the digest lies in memory as 'Dig' says; the bytes lie elsewhere.
-/
import Derived.Test.YtfnejnoldonfeaaH4
namespace Go.Proofs.Ytfnejnoldonfeaa
open Go.RowKit

set_option maxRecDepth 100000 in
set_option maxHeartbeats 1600000 in
theorem write128_a (g clen : Nat) (B : Option Addr) (tc : Nat) (buf : List UInt8) (seed : BitVec 32) (h : BitVec 64 × BitVec 64) (a : Option Addr) (len cap : Nat) (q : List UInt8) (w : World)
    (d : Dig w g 110 clen (.slice B 0 tc) buf seed (.iface 103 (.pointer (some ⟨g, 0, none⟩))) [.int .u64 (un h.1), .int .u64 (un h.2)])
    (hb : Far g w a q) (hl : q.length = len) (hc : len ≤ cap) (hm : cap ≤ 9223372036854775807) (hn : clen + len ≤ 9223372036854775807) :
   Calls Try.prog 98 #[.pointer (some ⟨g, 0, none⟩), .slice a len cap] w fun e w' => e = .returned (.tuple #[.int .i64 (len : Int), .nilIface]) ∧ Only g w w' ∧
     ∃ buf', Dig w' g 110 (clen + len) (.slice (some ⟨g, 2, none⟩) (len - 16 * (len / 16)) 16) buf' seed (.iface 103 (.pointer (some ⟨g, 0, none⟩))) [.int .u64 (un (st128 q h (len / 16)).1), .int .u64 (un (st128 q h (len / 16)).2)] ∧ buf'.take (len - 16 * (len / 16)) = q.drop (16 * (len / 16)) := by
  have c0 := d.c0
  have c1 := d.c1
  have c19 := d.c19
  have f0 := d.free 0
  have f1 := d.free 1
  have d1 := d.set0 (clen + len)
  have Hl := Lib.hid hl
  have Hb := Lib.hid hb
  have es : ((clen + len : Nat) : Int) = (clen : Int) + len := by omega
  rw [es] at d1
  have D1 := Lib.hid d1
  clear hl hb d d1 es
  go_enter Try.func98, Try.ntmps98
  go_wp2_with fail
  have o1 : Only g w (w.setCell ⟨g, 0, none⟩ (.int .i64 ((clen : Int) + (len : Int)))) := (Only.refl g w).setCell 0 _
  refine (bmixD128 g _ _ _ buf seed h a len cap q _ D1.out (Hb.out.only o1).bs Hl.out hc hm).mono ?_
  rintro e w2 ⟨rfl, d2, o2⟩
  have o12 := o1.trans o2
  have f1' := d2.free 1
  have c1' := d2.c1
  have d3 := d2.set1 (.slice (cutA a cap (16 * (len / 16))) (len - 16 * (len / 16)) (cap - 16 * (len / 16)))
  have D3 := Lib.hid d3
  have o13 := o12.setCell 1 (.slice (cutA a cap (16 * (len / 16))) (len - 16 * (len / 16)) (cap - 16 * (len / 16)))
  have HT := Lib.hid ((Hb.out.only o13).bs.drop cap (16 * (len / 16)) (by rw [Hl.out]; exact hc))
  clear d2 d3 c0 c1 c19 f0 f1
  go_wp2_with fail
  have hsA := fun W => sliceBuf g W
  have d3 := D3.out
  have c1 := d3.c1
  generalize hW : w2.setCell ⟨g, 1, none⟩ (.slice (cutA a cap (16 * (len / 16))) (len - 16 * (len / 16)) (cap - 16 * (len / 16))) = W at d3 c1 HT D3 o13 ⊢
  refine wp_region_still_tail 8 (by kernel_rfl) (by kernel_rfl) ?_
  change wpStill _ _ W.drew _ _ _
  simp only [List.take_succ_cons, List.take_zero, List.drop_succ_cons, List.drop_zero]
  repeat still_step
  try refine wpStill_nil ?_
  have fl : len - 16 * (len / 16) ≤ 16 := by omega
  refine wpList_copy_in (D3.out.drew) rfl _ _ rfl rfl _ _ _ (q.drop (16 * (len / 16))) rfl (HT.out.drewN 1) (by rw [List.length_drop, Hl.out]) fl ?_
  intro w4 d4 o4
  have f1 := d4.free 1
  have c1d := d4.c1
  have D5 := Lib.hid (d4.set1 (.slice (some ⟨g, 2, none⟩) (len - 16 * (len / 16)) 16))
  have O5 := ((o13.drew).trans o4).setCell 1 (.slice (some ⟨g, 2, none⟩) (len - 16 * (len / 16)) 16)
  clear d4
  have hsB := fun W => sliceBufTo g (len - 16 * (len / 16)) fl W
  go_wp2_with fail
  go_ret2
  refine ⟨rfl, O5, _, D5.out, ?_⟩
  have := Hl.out
  subst this
  exact upto_rest 16 _ _ q buf rfl
set_option maxRecDepth 100000 in
set_option maxHeartbeats 1600000 in
theorem write32_a (g clen : Nat) (B : Option Addr) (tc : Nat) (buf : List UInt8) (seed : BitVec 32) (h : BitVec 32) (a : Option Addr) (len cap : Nat) (q : List UInt8) (w : World)
    (d : Dig w g 116 clen (.slice B 0 tc) buf seed (.iface 114 (.pointer (some ⟨g, 0, none⟩))) [.int .u32 (un h)])
    (hb : Far g w a q) (hl : q.length = len) (hc : len ≤ cap) (hm : cap ≤ 9223372036854775807) (hn : clen + len ≤ 9223372036854775807) :
   Calls Try.prog 98 #[.pointer (some ⟨g, 0, none⟩), .slice a len cap] w fun e w' => e = .returned (.tuple #[.int .i64 (len : Int), .nilIface]) ∧ Only g w w' ∧
     ∃ buf', Dig w' g 116 (clen + len) (.slice (some ⟨g, 2, none⟩) (len - 4 * (len / 4)) 16) buf' seed (.iface 114 (.pointer (some ⟨g, 0, none⟩))) [.int .u32 (un (st32 q h (len / 4)))] ∧ buf'.take (len - 4 * (len / 4)) = q.drop (4 * (len / 4)) := by
  have c0 := d.c0
  have c1 := d.c1
  have c19 := d.c19
  have f0 := d.free 0
  have f1 := d.free 1
  have d1 := d.set0 (clen + len)
  have Hl := Lib.hid hl
  have Hb := Lib.hid hb
  have es : ((clen + len : Nat) : Int) = (clen : Int) + len := by omega
  rw [es] at d1
  have D1 := Lib.hid d1
  clear hl hb d d1 es
  go_enter Try.func98, Try.ntmps98
  go_wp2_with fail
  have o1 : Only g w (w.setCell ⟨g, 0, none⟩ (.int .i64 ((clen : Int) + (len : Int)))) := (Only.refl g w).setCell 0 _
  refine (bmixD32 g _ _ _ buf seed h a len cap q _ D1.out (Hb.out.only o1).bs Hl.out hc hm).mono ?_
  rintro e w2 ⟨rfl, d2, o2⟩
  have o12 := o1.trans o2
  have f1' := d2.free 1
  have c1' := d2.c1
  have d3 := d2.set1 (.slice (cutA a cap (4 * (len / 4))) (len - 4 * (len / 4)) (cap - 4 * (len / 4)))
  have D3 := Lib.hid d3
  have o13 := o12.setCell 1 (.slice (cutA a cap (4 * (len / 4))) (len - 4 * (len / 4)) (cap - 4 * (len / 4)))
  have HT := Lib.hid ((Hb.out.only o13).bs.drop cap (4 * (len / 4)) (by rw [Hl.out]; exact hc))
  clear d2 d3 c0 c1 c19 f0 f1
  go_wp2_with fail
  have hsA := fun W => sliceBuf g W
  have d3 := D3.out
  have c1 := d3.c1
  generalize hW : w2.setCell ⟨g, 1, none⟩ (.slice (cutA a cap (4 * (len / 4))) (len - 4 * (len / 4)) (cap - 4 * (len / 4))) = W at d3 c1 HT D3 o13 ⊢
  refine wp_region_still_tail 8 (by kernel_rfl) (by kernel_rfl) ?_
  change wpStill _ _ W.drew _ _ _
  simp only [List.take_succ_cons, List.take_zero, List.drop_succ_cons, List.drop_zero]
  repeat still_step
  try refine wpStill_nil ?_
  have fl : len - 4 * (len / 4) ≤ 16 := by omega
  refine wpList_copy_in (D3.out.drew) rfl _ _ rfl rfl _ _ _ (q.drop (4 * (len / 4))) rfl (HT.out.drewN 1) (by rw [List.length_drop, Hl.out]) fl ?_
  intro w4 d4 o4
  have f1 := d4.free 1
  have c1d := d4.c1
  have D5 := Lib.hid (d4.set1 (.slice (some ⟨g, 2, none⟩) (len - 4 * (len / 4)) 16))
  have O5 := ((o13.drew).trans o4).setCell 1 (.slice (some ⟨g, 2, none⟩) (len - 4 * (len / 4)) 16)
  clear d4
  have hsB := fun W => sliceBufTo g (len - 4 * (len / 4)) fl W
  go_wp2_with fail
  go_ret2
  refine ⟨rfl, O5, _, D5.out, ?_⟩
  have := Hl.out
  subst this
  exact upto_rest 4 _ _ q buf rfl
end Go.Proofs.Ytfnejnoldonfeaa
