/-
  Write of a digest: bytes are pending, and no more than a block comes of it.
  Conditions: the digest lies in memory as 'Dig' says; the bytes lie elsewhere.
-/
import Derived.Test.YtfnejnoldonfeaaH4Q
namespace Go.Proofs.Ytfnejnoldonfeaa
open Go.RowKit BigFrame

set_option maxRecDepth 100000 in
set_option maxHeartbeats 1600000 in
theorem write128_c (g clen t : Nat) (buf : List UInt8) (seed : BitVec 32) (h : BitVec 64 × BitVec 64) (a : Option Addr) (len cap : Nat) (q : List UInt8) (w : World) (ht : 0 < t) (hts : t + len ≤ 16)
    (d : Dig w g 110 clen (.slice (some ⟨g, 2, none⟩) t 16) buf seed (.iface 103 (.pointer (some ⟨g, 0, none⟩))) [.int .u64 (un h.1), .int .u64 (un h.2)])
    (hb : Far g w a q) (hl : q.length = len) (hn : clen + len ≤ 9223372036854775807) :
   Calls Try.prog 98 #[.pointer (some ⟨g, 0, none⟩), .slice a len cap] w fun e w' => e = .returned (.tuple #[.int .i64 (len : Int), .nilIface]) ∧ Only g w w' ∧
     ∃ buf', Dig w' g 110 (clen + len) (.slice (some ⟨g, 2, none⟩) (t + len - 16 * ((t + len) / 16)) 16) buf' seed (.iface 103 (.pointer (some ⟨g, 0, none⟩))) [.int .u64 (un (st128 (buf.take t ++ q) h ((t + len) / 16)).1), .int .u64 (un (st128 (buf.take t ++ q) h ((t + len) / 16)).2)] ∧
       buf'.take (t + len - 16 * ((t + len) / 16)) = (buf.take t ++ q).drop (16 * ((t + len) / 16)) := by
  have c0 := d.c0
  have c1 := d.c1
  have c19 := d.c19
  have f0 := d.free 0
  have f1 := d.free 1
  have d1 := d.set0 (clen + len)
  have Hl := Lib.hid hl
  have Hb := Lib.hid hb
  have Db := Lib.hid d.len
  have es : ((clen + len : Nat) : Int) = (clen : Int) + len := by omega
  rw [es] at d1
  have D1 := Lib.hid d1
  clear hl hb d d1 es
  have hg : (0 : Int) < (t : Int) := by omega
  have hz : IntKind.i64.wrap (16 - (t : Int)) = 16 - (t : Int) := IntWalk.i64_in _ (by omega)
  have hf : ¬ (16 - (t : Int) < (len : Int)) := by omega
  go_enter Try.func98, Try.ntmps98
  go_wp2_with fail
  refine wp_region_quiet_lit (by kernel_rfl) (by kernel_rfl) ?_
  repeat (go_big_quiet_step (fail))
  refine wpQuiet_inv rfl _ _ rfl _ _ rfl 77 (fun W => msize128 g W) (.int .i64 16) (by rintro _ ⟨n, rfl⟩; exact Calls.quiet_of_same ((size128_any _ _).mono fun e w' h => ⟨h.1, h.2.symm⟩)) ?_
  simp only [Act.put, List.setIfInBounds_toArray, List.set_cons_succ, List.set_cons_zero]
  repeat (go_big_quiet_step (fail))
  refine wpQuiet_nil ?_
  rintro _ ⟨nq, rfl⟩
  have dn := Lib.hid (D1.out.drewN nq)
  have on : Only g w ((w.setCell ⟨g, 0, none⟩ (.int .i64 ((clen : Int) + (len : Int)))).drewN nq) := ((Only.refl g w).setCell 0 _).drewN nq
  have hbn := Lib.hid (Hb.out.only on).bs
  go_wp2_with (at_builtin; refine wpList_app_in dn.out rfl _ _ rfl t rfl a len cap q rfl hbn.out Hl.out (by omega) ?_; intro w1 d1 o1; have c19' := d1.c19; have f1' := d1.free 1; have c1' := d1.c1)
  have en : (buf.take t ++ q).length = t + len := by have := Hl.out; have := Db.out; simp; omega
  have E1 : (buf.take t ++ q ++ buf.drop (t + len)).take (t + len) = buf.take t ++ q := by rw [← en, List.take_left']; rfl
  refine (bmixD128 g _ _ _ _ seed h (some ⟨g, 2, none⟩) (t + len) 16 (buf.take t ++ q) _ d1 (E1 ▸ Bs.own d1 (t + len)) en (by omega) (by omega)).mono ?_
  rintro e w2 ⟨rfl, d2, o2⟩
  have o12 := (on.trans o1).trans o2
  have f1' := d2.free 1
  have c1' := d2.c1
  have d3 := d2.set1 (.slice (cutA (some ⟨g, 2, none⟩) 16 (16 * ((t + len) / 16))) (t + len - 16 * ((t + len) / 16)) (16 - 16 * ((t + len) / 16)))
  have D3 := Lib.hid d3
  have o13 := o12.setCell 1 (.slice (cutA (some ⟨g, 2, none⟩) 16 (16 * ((t + len) / 16))) (t + len - 16 * ((t + len) / 16)) (16 - 16 * ((t + len) / 16)))
  have hown : Bs (w2.setCell ⟨g, 1, none⟩ (.slice (cutA (some ⟨g, 2, none⟩) 16 (16 * ((t + len) / 16))) (t + len - 16 * ((t + len) / 16)) (16 - 16 * ((t + len) / 16)))) (some ⟨g, 2, none⟩) (buf.take t ++ q) := E1 ▸ Bs.own d3 (t + len)
  have HT := Lib.hid (hown.drop 16 (16 * ((t + len) / 16)) (by omega))
  have En := Lib.hid en
  clear d2 d3 c0 c1 c19 f0 f1 hown en E1 d1
  go_wp2_with fail
  have hsA := fun W => sliceBuf g W
  have d3 := D3.out
  have c1 := d3.c1
  generalize hW : w2.setCell ⟨g, 1, none⟩ (.slice (cutA (some ⟨g, 2, none⟩) 16 (16 * ((t + len) / 16))) (t + len - 16 * ((t + len) / 16)) (16 - 16 * ((t + len) / 16))) = W at d3 c1 HT D3 o13 ⊢
  refine wp_region_still_tail 8 (by kernel_rfl) (by kernel_rfl) ?_
  change wpStill _ _ W.drew _ _ _
  simp only [List.take_succ_cons, List.take_zero, List.drop_succ_cons, List.drop_zero]
  repeat still_step
  try refine wpStill_nil ?_
  have fl : t + len - 16 * ((t + len) / 16) ≤ 16 := by omega
  refine wpList_copy_in (D3.out.drew) rfl _ _ rfl rfl _ _ _ ((buf.take t ++ q).drop (16 * ((t + len) / 16))) rfl (HT.out.drewN 1) (by rw [List.length_drop, En.out]) fl ?_
  intro w4 d4 o4
  have f1 := d4.free 1
  have c1d := d4.c1
  have D5 := Lib.hid (d4.set1 (.slice (some ⟨g, 2, none⟩) (t + len - 16 * ((t + len) / 16)) 16))
  have O5 := ((o13.drew).trans o4).setCell 1 (.slice (some ⟨g, 2, none⟩) (t + len - 16 * ((t + len) / 16)) 16)
  clear d4
  have hsB := fun W => sliceBufTo g (t + len - 16 * ((t + len) / 16)) fl W
  go_wp2_with fail
  go_ret2
  refine ⟨rfl, O5, _, D5.out, ?_⟩
  have := En.out
  rw [← this]
  exact upto_rest 16 _ _ (buf.take t ++ q) _ rfl
set_option maxRecDepth 100000 in
set_option maxHeartbeats 1600000 in
theorem write32_c (g clen t : Nat) (buf : List UInt8) (seed : BitVec 32) (h : BitVec 32) (a : Option Addr) (len cap : Nat) (q : List UInt8) (w : World) (ht : 0 < t) (hts : t + len ≤ 4)
    (d : Dig w g 116 clen (.slice (some ⟨g, 2, none⟩) t 16) buf seed (.iface 114 (.pointer (some ⟨g, 0, none⟩))) [.int .u32 (un h)])
    (hb : Far g w a q) (hl : q.length = len) (hn : clen + len ≤ 9223372036854775807) :
   Calls Try.prog 98 #[.pointer (some ⟨g, 0, none⟩), .slice a len cap] w fun e w' => e = .returned (.tuple #[.int .i64 (len : Int), .nilIface]) ∧ Only g w w' ∧
     ∃ buf', Dig w' g 116 (clen + len) (.slice (some ⟨g, 2, none⟩) (t + len - 4 * ((t + len) / 4)) 16) buf' seed (.iface 114 (.pointer (some ⟨g, 0, none⟩))) [.int .u32 (un (st32 (buf.take t ++ q) h ((t + len) / 4)))] ∧
       buf'.take (t + len - 4 * ((t + len) / 4)) = (buf.take t ++ q).drop (4 * ((t + len) / 4)) := by
  have c0 := d.c0
  have c1 := d.c1
  have c19 := d.c19
  have f0 := d.free 0
  have f1 := d.free 1
  have d1 := d.set0 (clen + len)
  have Hl := Lib.hid hl
  have Hb := Lib.hid hb
  have Db := Lib.hid d.len
  have es : ((clen + len : Nat) : Int) = (clen : Int) + len := by omega
  rw [es] at d1
  have D1 := Lib.hid d1
  clear hl hb d d1 es
  have hg : (0 : Int) < (t : Int) := by omega
  have hz : IntKind.i64.wrap (4 - (t : Int)) = 4 - (t : Int) := IntWalk.i64_in _ (by omega)
  have hf : ¬ (4 - (t : Int) < (len : Int)) := by omega
  go_enter Try.func98, Try.ntmps98
  go_wp2_with fail
  refine wp_region_quiet_lit (by kernel_rfl) (by kernel_rfl) ?_
  repeat (go_big_quiet_step (fail))
  refine wpQuiet_inv rfl _ _ rfl _ _ rfl 100 (fun W => msize32 g W) (.int .i64 4) (by rintro _ ⟨n, rfl⟩; exact Calls.quiet_of_same ((size32_any _ _).mono fun e w' h => ⟨h.1, h.2.symm⟩)) ?_
  simp only [Act.put, List.setIfInBounds_toArray, List.set_cons_succ, List.set_cons_zero]
  repeat (go_big_quiet_step (fail))
  refine wpQuiet_nil ?_
  rintro _ ⟨nq, rfl⟩
  have dn := Lib.hid (D1.out.drewN nq)
  have on : Only g w ((w.setCell ⟨g, 0, none⟩ (.int .i64 ((clen : Int) + (len : Int)))).drewN nq) := ((Only.refl g w).setCell 0 _).drewN nq
  have hbn := Lib.hid (Hb.out.only on).bs
  go_wp2_with (at_builtin; refine wpList_app_in dn.out rfl _ _ rfl t rfl a len cap q rfl hbn.out Hl.out (by omega) ?_; intro w1 d1 o1; have c19' := d1.c19; have f1' := d1.free 1; have c1' := d1.c1)
  have en : (buf.take t ++ q).length = t + len := by have := Hl.out; have := Db.out; simp; omega
  have E1 : (buf.take t ++ q ++ buf.drop (t + len)).take (t + len) = buf.take t ++ q := by rw [← en, List.take_left']; rfl
  refine (bmixD32 g _ _ _ _ seed h (some ⟨g, 2, none⟩) (t + len) 16 (buf.take t ++ q) _ d1 (E1 ▸ Bs.own d1 (t + len)) en (by omega) (by omega)).mono ?_
  rintro e w2 ⟨rfl, d2, o2⟩
  have o12 := (on.trans o1).trans o2
  have f1' := d2.free 1
  have c1' := d2.c1
  have d3 := d2.set1 (.slice (cutA (some ⟨g, 2, none⟩) 16 (4 * ((t + len) / 4))) (t + len - 4 * ((t + len) / 4)) (16 - 4 * ((t + len) / 4)))
  have D3 := Lib.hid d3
  have o13 := o12.setCell 1 (.slice (cutA (some ⟨g, 2, none⟩) 16 (4 * ((t + len) / 4))) (t + len - 4 * ((t + len) / 4)) (16 - 4 * ((t + len) / 4)))
  have hown : Bs (w2.setCell ⟨g, 1, none⟩ (.slice (cutA (some ⟨g, 2, none⟩) 16 (4 * ((t + len) / 4))) (t + len - 4 * ((t + len) / 4)) (16 - 4 * ((t + len) / 4)))) (some ⟨g, 2, none⟩) (buf.take t ++ q) := E1 ▸ Bs.own d3 (t + len)
  have HT := Lib.hid (hown.drop 16 (4 * ((t + len) / 4)) (by omega))
  have En := Lib.hid en
  clear d2 d3 c0 c1 c19 f0 f1 hown en E1 d1
  go_wp2_with fail
  have hsA := fun W => sliceBuf g W
  have d3 := D3.out
  have c1 := d3.c1
  generalize hW : w2.setCell ⟨g, 1, none⟩ (.slice (cutA (some ⟨g, 2, none⟩) 16 (4 * ((t + len) / 4))) (t + len - 4 * ((t + len) / 4)) (16 - 4 * ((t + len) / 4))) = W at d3 c1 HT D3 o13 ⊢
  refine wp_region_still_tail 8 (by kernel_rfl) (by kernel_rfl) ?_
  change wpStill _ _ W.drew _ _ _
  simp only [List.take_succ_cons, List.take_zero, List.drop_succ_cons, List.drop_zero]
  repeat still_step
  try refine wpStill_nil ?_
  have fl : t + len - 4 * ((t + len) / 4) ≤ 16 := by omega
  refine wpList_copy_in (D3.out.drew) rfl _ _ rfl rfl _ _ _ ((buf.take t ++ q).drop (4 * ((t + len) / 4))) rfl (HT.out.drewN 1) (by rw [List.length_drop, En.out]) fl ?_
  intro w4 d4 o4
  have f1 := d4.free 1
  have c1d := d4.c1
  have D5 := Lib.hid (d4.set1 (.slice (some ⟨g, 2, none⟩) (t + len - 4 * ((t + len) / 4)) 16))
  have O5 := ((o13.drew).trans o4).setCell 1 (.slice (some ⟨g, 2, none⟩) (t + len - 4 * ((t + len) / 4)) 16)
  clear d4
  have hsB := fun W => sliceBufTo g (t + len - 4 * ((t + len) / 4)) fl W
  go_wp2_with fail
  go_ret2
  refine ⟨rfl, O5, _, D5.out, ?_⟩
  have := En.out
  rw [← this]
  exact upto_rest 4 _ _ (buf.take t ++ q) _ rfl
end Go.Proofs.Ytfnejnoldonfeaa
