/-
  Write of a digest: bytes are pending, and more than a block comes of it.
  Conditions: the digest lies in memory as 'Dig' says; the bytes lie elsewhere.
-/
import Derived.Test.YtfnejnoldonfeaaH4Q
namespace Go.Proofs.Ytfnejnoldonfeaa
open Go.RowKit BigFrame

set_option maxRecDepth 100000 in
set_option maxHeartbeats 1600000 in
theorem write128_b (g clen t f : Nat) (buf : List UInt8) (seed : BitVec 32) (h : BitVec 64 × BitVec 64) (a : Option Addr) (len cap : Nat) (q : List UInt8) (w : World) (ht : 0 < t) (hf0 : t + f = 16) (hfl : f < len)
    (d : Dig w g 110 clen (.slice (some ⟨g, 2, none⟩) t 16) buf seed (.iface 103 (.pointer (some ⟨g, 0, none⟩))) [.int .u64 (un h.1), .int .u64 (un h.2)])
    (hb : Far g w a q) (hl : q.length = len) (hc : len ≤ cap) (hm : cap ≤ 9223372036854775807) (hn : clen + len ≤ 9223372036854775807) :
   Calls Try.prog 98 #[.pointer (some ⟨g, 0, none⟩), .slice a len cap] w fun e w' => e = .returned (.tuple #[.int .i64 (len : Int), .nilIface]) ∧ Only g w w' ∧
     ∃ buf', Dig w' g 110 (clen + len) (.slice (some ⟨g, 2, none⟩) (len - f - 16 * ((len - f) / 16)) 16) buf' seed (.iface 103 (.pointer (some ⟨g, 0, none⟩))) [.int .u64 (un (st128 (q.drop f) (st128 (buf.take t ++ q.take f) h 1) ((len - f) / 16)).1), .int .u64 (un (st128 (q.drop f) (st128 (buf.take t ++ q.take f) h 1) ((len - f) / 16)).2)] ∧
       buf'.take (len - f - 16 * ((len - f) / 16)) = (q.drop f).drop (16 * ((len - f) / 16)) := by
  have c0 := d.c0
  have c1 := d.c1
  have c19 := d.c19
  have f0 := d.free 0
  have f1 := d.free 1
  have d1 := d.set0 (clen + len)
  have Hl := Lib.hid hl
  have Hb := Lib.hid hb
  have Db := Lib.hid d.len
  have es : ((clen + len : Nat) : Int) = (clen : Int) + len := by omega
  rw [es] at d1
  have D1 := Lib.hid d1
  clear hl hb d d1 es
  have hg : (0 : Int) < (t : Int) := by omega
  have hz : IntKind.i64.wrap (16 - (t : Int)) = (f : Int) := by rw [IntWalk.i64_in _ (by omega)]; omega
  have hzf : (16 : Int) - (t : Int) = (f : Int) := by omega
  have hf : (f : Int) < (len : Int) := by omega
  have s6 := fun W => slice_to a len cap f W (by omega)
  have s7 := fun W => slice_from a len cap f W (by omega)
  go_enter Try.func98, Try.ntmps98
  go_wp2_with fail
  refine wp_region_quiet_lit (by kernel_rfl) (by kernel_rfl) ?_
  repeat (go_big_quiet_step (fail))
  refine wpQuiet_inv rfl _ _ rfl _ _ rfl 77 (fun W => msize128 g W) (.int .i64 16) (by rintro _ ⟨n, rfl⟩; exact Calls.quiet_of_same ((size128_any _ _).mono fun e w' h => ⟨h.1, h.2.symm⟩)) ?_
  simp only [Act.put, List.setIfInBounds_toArray, List.set_cons_succ, List.set_cons_zero]
  repeat (go_big_quiet_step (fail))
  refine wpQuiet_nil ?_
  rintro _ ⟨nq, rfl⟩
  go_wp2_with fail
  have dn := D1.out.drewN nq
  have c1n := dn.c1
  have on : Only g w ((w.setCell ⟨g, 0, none⟩ (.int .i64 ((clen : Int) + (len : Int)))).drewN nq) := ((Only.refl g w).setCell 0 _).drewN nq
  generalize hW0 : (w.setCell ⟨g, 0, none⟩ (.int .i64 ((clen : Int) + (len : Int)))).drewN nq = W0 at dn c1n on ⊢
  have Dn := Lib.hid dn
  have hbn := Lib.hid (Hb.out.only on)
  clear dn
  refine wp_region_still_tail 7 (by kernel_rfl) (by kernel_rfl) ?_
  change wpStill _ _ W0.drew _ _ _
  simp only [List.take_succ_cons, List.take_zero, List.drop_succ_cons, List.drop_zero]
  repeat still_step
  try refine wpStill_nil ?_
  refine wpList_app_in (Dn.out.drew) rfl _ _ rfl t rfl a f cap (q.take f) rfl (hbn.out.bs.take f |>.drewN 1) (by rw [List.length_take, Hl.out]; omega) (by omega) ?_
  intro w1 d1 o1
  have c19' := d1.c19
  have f1' := d1.free 1
  have c1' := d1.c1
  have en : (buf.take t ++ q.take f).length = 16 := by have := Hl.out; have := Db.out; simp; omega
  have E1 : (buf.take t ++ q.take f ++ buf.drop (t + f)).take 16 = buf.take t ++ q.take f := by rw [← en, List.take_left']; rfl
  have hown := Lib.hid (E1 ▸ Bs.own d1 16)
  have En := Lib.hid en
  have D1' := Lib.hid d1
  clear d1 en E1
  go_wp2_with fail
  refine (bmixD128 g _ _ _ _ seed h (some ⟨g, 2, none⟩) 16 16 (buf.take t ++ q.take f) _ D1'.out hown.out En.out (by omega) (by omega)).mono ?_
  rintro e w2 ⟨rfl, d2, o2⟩
  have o12 := ((on.drew).trans o1).trans o2
  have f1' := d2.free 1
  have c1' := d2.c1
  have c19' := d2.c19
  have D2 := Lib.hid d2
  clear d2
  go_wp2_with fail
  have hb2 : Bs w2 (cutA a cap f) (q.drop f) := (Hb.out.only o12).bs.drop cap f (by rw [Hl.out]; exact hc)
  have el : (q.drop f).length = len - f := by rw [List.length_drop, Hl.out]
  have El := Lib.hid el
  refine (bmixD128 g _ _ _ _ seed _ (cutA a cap f) (len - f) (cap - f) (q.drop f) _ D2.out hb2 el (by omega) (by omega)).mono ?_
  rintro e w3 ⟨rfl, d2, o3⟩
  have o12 := o12.trans o3
  have f1' := d2.free 1
  have c1' := d2.c1
  have d3 := d2.set1 (.slice (cutA (cutA a cap f) (cap - f) (16 * ((len - f) / 16))) (len - f - 16 * ((len - f) / 16)) (cap - f - 16 * ((len - f) / 16)))
  have D3 := Lib.hid d3
  have o13 := o12.setCell 1 (.slice (cutA (cutA a cap f) (cap - f) (16 * ((len - f) / 16))) (len - f - 16 * ((len - f) / 16)) (cap - f - 16 * ((len - f) / 16)))
  have HT := Lib.hid (((Hb.out.only o13).bs.drop cap f (by rw [Hl.out]; exact hc)).drop (cap - f) (16 * ((len - f) / 16)) (by omega))
  clear d2 d3 c0 c1 c19 f0 f1 el hb2
  go_wp2_with fail
  have hsA := fun W => sliceBuf g W
  have d3 := D3.out
  have c1 := d3.c1
  generalize hW : w3.setCell ⟨g, 1, none⟩ (.slice (cutA (cutA a cap f) (cap - f) (16 * ((len - f) / 16))) (len - f - 16 * ((len - f) / 16)) (cap - f - 16 * ((len - f) / 16))) = W at d3 c1 HT D3 o13 ⊢
  refine wp_region_still_tail 8 (by kernel_rfl) (by kernel_rfl) ?_
  change wpStill _ _ W.drew _ _ _
  simp only [List.take_succ_cons, List.take_zero, List.drop_succ_cons, List.drop_zero]
  repeat still_step
  try refine wpStill_nil ?_
  have fl : len - f - 16 * ((len - f) / 16) ≤ 16 := by omega
  refine wpList_copy_in (D3.out.drew) rfl _ _ rfl rfl _ _ _ ((q.drop f).drop (16 * ((len - f) / 16))) rfl (HT.out.drewN 1) (by rw [List.length_drop, El.out]) fl ?_
  intro w4 d4 o4
  have f1 := d4.free 1
  have c1d := d4.c1
  have D5 := Lib.hid (d4.set1 (.slice (some ⟨g, 2, none⟩) (len - f - 16 * ((len - f) / 16)) 16))
  have O5 := ((o13.drew).trans o4).setCell 1 (.slice (some ⟨g, 2, none⟩) (len - f - 16 * ((len - f) / 16)) 16)
  clear d4
  have hsB := fun W => sliceBufTo g (len - f - 16 * ((len - f) / 16)) fl W
  go_wp2_with fail
  go_ret2
  refine ⟨rfl, O5, _, D5.out, ?_⟩
  have := El.out
  rw [← this]
  exact upto_rest 16 _ _ (q.drop f) _ rfl
set_option maxRecDepth 100000 in
set_option maxHeartbeats 1600000 in
theorem write32_b (g clen t f : Nat) (buf : List UInt8) (seed : BitVec 32) (h : BitVec 32) (a : Option Addr) (len cap : Nat) (q : List UInt8) (w : World) (ht : 0 < t) (hf0 : t + f = 4) (hfl : f < len)
    (d : Dig w g 116 clen (.slice (some ⟨g, 2, none⟩) t 16) buf seed (.iface 114 (.pointer (some ⟨g, 0, none⟩))) [.int .u32 (un h)])
    (hb : Far g w a q) (hl : q.length = len) (hc : len ≤ cap) (hm : cap ≤ 9223372036854775807) (hn : clen + len ≤ 9223372036854775807) :
   Calls Try.prog 98 #[.pointer (some ⟨g, 0, none⟩), .slice a len cap] w fun e w' => e = .returned (.tuple #[.int .i64 (len : Int), .nilIface]) ∧ Only g w w' ∧
     ∃ buf', Dig w' g 116 (clen + len) (.slice (some ⟨g, 2, none⟩) (len - f - 4 * ((len - f) / 4)) 16) buf' seed (.iface 114 (.pointer (some ⟨g, 0, none⟩))) [.int .u32 (un (st32 (q.drop f) (st32 (buf.take t ++ q.take f) h 1) ((len - f) / 4)))] ∧
       buf'.take (len - f - 4 * ((len - f) / 4)) = (q.drop f).drop (4 * ((len - f) / 4)) := by
  have c0 := d.c0
  have c1 := d.c1
  have c19 := d.c19
  have f0 := d.free 0
  have f1 := d.free 1
  have d1 := d.set0 (clen + len)
  have Hl := Lib.hid hl
  have Hb := Lib.hid hb
  have Db := Lib.hid d.len
  have es : ((clen + len : Nat) : Int) = (clen : Int) + len := by omega
  rw [es] at d1
  have D1 := Lib.hid d1
  clear hl hb d d1 es
  have hg : (0 : Int) < (t : Int) := by omega
  have hz : IntKind.i64.wrap (4 - (t : Int)) = (f : Int) := by rw [IntWalk.i64_in _ (by omega)]; omega
  have hzf : (4 : Int) - (t : Int) = (f : Int) := by omega
  have hf : (f : Int) < (len : Int) := by omega
  have s6 := fun W => slice_to a len cap f W (by omega)
  have s7 := fun W => slice_from a len cap f W (by omega)
  go_enter Try.func98, Try.ntmps98
  go_wp2_with fail
  refine wp_region_quiet_lit (by kernel_rfl) (by kernel_rfl) ?_
  repeat (go_big_quiet_step (fail))
  refine wpQuiet_inv rfl _ _ rfl _ _ rfl 100 (fun W => msize32 g W) (.int .i64 4) (by rintro _ ⟨n, rfl⟩; exact Calls.quiet_of_same ((size32_any _ _).mono fun e w' h => ⟨h.1, h.2.symm⟩)) ?_
  simp only [Act.put, List.setIfInBounds_toArray, List.set_cons_succ, List.set_cons_zero]
  repeat (go_big_quiet_step (fail))
  refine wpQuiet_nil ?_
  rintro _ ⟨nq, rfl⟩
  go_wp2_with fail
  have dn := D1.out.drewN nq
  have c1n := dn.c1
  have on : Only g w ((w.setCell ⟨g, 0, none⟩ (.int .i64 ((clen : Int) + (len : Int)))).drewN nq) := ((Only.refl g w).setCell 0 _).drewN nq
  generalize hW0 : (w.setCell ⟨g, 0, none⟩ (.int .i64 ((clen : Int) + (len : Int)))).drewN nq = W0 at dn c1n on ⊢
  have Dn := Lib.hid dn
  have hbn := Lib.hid (Hb.out.only on)
  clear dn
  refine wp_region_still_tail 7 (by kernel_rfl) (by kernel_rfl) ?_
  change wpStill _ _ W0.drew _ _ _
  simp only [List.take_succ_cons, List.take_zero, List.drop_succ_cons, List.drop_zero]
  repeat still_step
  try refine wpStill_nil ?_
  refine wpList_app_in (Dn.out.drew) rfl _ _ rfl t rfl a f cap (q.take f) rfl (hbn.out.bs.take f |>.drewN 1) (by rw [List.length_take, Hl.out]; omega) (by omega) ?_
  intro w1 d1 o1
  have c19' := d1.c19
  have f1' := d1.free 1
  have c1' := d1.c1
  have en : (buf.take t ++ q.take f).length = 4 := by have := Hl.out; have := Db.out; simp; omega
  have E1 : (buf.take t ++ q.take f ++ buf.drop (t + f)).take 4 = buf.take t ++ q.take f := by rw [← en, List.take_left']; rfl
  have hown := Lib.hid (E1 ▸ Bs.own d1 4)
  have En := Lib.hid en
  have D1' := Lib.hid d1
  clear d1 en E1
  go_wp2_with fail
  refine (bmixD32 g _ _ _ _ seed h (some ⟨g, 2, none⟩) 4 16 (buf.take t ++ q.take f) _ D1'.out hown.out En.out (by omega) (by omega)).mono ?_
  rintro e w2 ⟨rfl, d2, o2⟩
  have o12 := ((on.drew).trans o1).trans o2
  have f1' := d2.free 1
  have c1' := d2.c1
  have c19' := d2.c19
  have D2 := Lib.hid d2
  clear d2
  go_wp2_with fail
  have hb2 : Bs w2 (cutA a cap f) (q.drop f) := (Hb.out.only o12).bs.drop cap f (by rw [Hl.out]; exact hc)
  have el : (q.drop f).length = len - f := by rw [List.length_drop, Hl.out]
  have El := Lib.hid el
  refine (bmixD32 g _ _ _ _ seed _ (cutA a cap f) (len - f) (cap - f) (q.drop f) _ D2.out hb2 el (by omega) (by omega)).mono ?_
  rintro e w3 ⟨rfl, d2, o3⟩
  have o12 := o12.trans o3
  have f1' := d2.free 1
  have c1' := d2.c1
  have d3 := d2.set1 (.slice (cutA (cutA a cap f) (cap - f) (4 * ((len - f) / 4))) (len - f - 4 * ((len - f) / 4)) (cap - f - 4 * ((len - f) / 4)))
  have D3 := Lib.hid d3
  have o13 := o12.setCell 1 (.slice (cutA (cutA a cap f) (cap - f) (4 * ((len - f) / 4))) (len - f - 4 * ((len - f) / 4)) (cap - f - 4 * ((len - f) / 4)))
  have HT := Lib.hid (((Hb.out.only o13).bs.drop cap f (by rw [Hl.out]; exact hc)).drop (cap - f) (4 * ((len - f) / 4)) (by omega))
  clear d2 d3 c0 c1 c19 f0 f1 el hb2
  go_wp2_with fail
  have hsA := fun W => sliceBuf g W
  have d3 := D3.out
  have c1 := d3.c1
  generalize hW : w3.setCell ⟨g, 1, none⟩ (.slice (cutA (cutA a cap f) (cap - f) (4 * ((len - f) / 4))) (len - f - 4 * ((len - f) / 4)) (cap - f - 4 * ((len - f) / 4))) = W at d3 c1 HT D3 o13 ⊢
  refine wp_region_still_tail 8 (by kernel_rfl) (by kernel_rfl) ?_
  change wpStill _ _ W.drew _ _ _
  simp only [List.take_succ_cons, List.take_zero, List.drop_succ_cons, List.drop_zero]
  repeat still_step
  try refine wpStill_nil ?_
  have fl : len - f - 4 * ((len - f) / 4) ≤ 16 := by omega
  refine wpList_copy_in (D3.out.drew) rfl _ _ rfl rfl _ _ _ ((q.drop f).drop (4 * ((len - f) / 4))) rfl (HT.out.drewN 1) (by rw [List.length_drop, El.out]) fl ?_
  intro w4 d4 o4
  have f1 := d4.free 1
  have c1d := d4.c1
  have D5 := Lib.hid (d4.set1 (.slice (some ⟨g, 2, none⟩) (len - f - 4 * ((len - f) / 4)) 16))
  have O5 := ((o13.drew).trans o4).setCell 1 (.slice (some ⟨g, 2, none⟩) (len - f - 4 * ((len - f) / 4)) 16)
  clear d4
  have hsB := fun W => sliceBufTo g (len - f - 4 * ((len - f) / 4)) fl W
  go_wp2_with fail
  go_ret2
  refine ⟨rfl, O5, _, D5.out, ?_⟩
  have := El.out
  rw [← this]
  exact upto_rest 4 _ _ (q.drop f) _ rfl
end Go.Proofs.Ytfnejnoldonfeaa
