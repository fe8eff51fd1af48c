/-
  impl.Bare, impl.New.
  Conditions: the bytes lie in memory.
-/
import Derived.Test.YtfnejnoldonfeaaH7
import Derived.Test.YtfnejnoldonfeaaLaws7
namespace Go.Proofs.Ytfnejnoldonfeaa
open Go.RowKit BigFrame

theorem new32_0 (w : World) : Calls Try.prog 65 #[] w fun e w' =>
    e = .returned (.iface 114 (.pointer (some ⟨w.heap.size, 0, none⟩))) ∧ St32 w.heap.size 0#32 [] w' ∧ Below w.heap.size w w' ∧ w'.heap.size = w.heap.size + 1 := by
  go_enter Try.func65, Try.ntmps65
  go_wp2_with fail
  refine (new32_any 0#32 _).mono ?_
  rintro e w1 ⟨rfl, d1, b1, z1⟩
  go_wp2_with fail
  go_ret
  exact ⟨rfl, St32.new d1, b1, z1⟩
theorem new64_0 (w : World) : Calls Try.prog 66 #[] w fun e w' =>
    e = .returned (.iface 117 (.pointer (some ⟨w.heap.size, 0, none⟩))) ∧ St128 w.heap.size 0#32 [] w' ∧ Below w.heap.size w w' ∧ w'.heap.size = w.heap.size + 1 := by
  go_enter Try.func66, Try.ntmps66
  go_wp2_with fail
  refine (new64_any 0#32 _).mono ?_
  rintro e w1 ⟨rfl, d1, b1, z1⟩
  go_wp2_with fail
  go_ret
  exact ⟨rfl, St128.new d1, b1, z1⟩
theorem new128_0 (w : World) : Calls Try.prog 67 #[] w fun e w' =>
    e = .returned (.iface 103 (.pointer (some ⟨w.heap.size, 0, none⟩))) ∧ St128 w.heap.size 0#32 [] w' ∧ Below w.heap.size w w' ∧ w'.heap.size = w.heap.size + 1 := by
  go_enter Try.func67, Try.ntmps67
  go_wp2_with fail
  refine (new128_any 0#32 _).mono ?_
  rintro e w1 ⟨rfl, d1, b1, z1⟩
  go_wp2_with fail
  go_ret
  exact ⟨rfl, St128.new d1, b1, z1⟩

set_option maxRecDepth 100000 in
set_option maxHeartbeats 1600000 in
theorem new_any (a : Option Addr) (len cap : Nat) (l : List UInt8) (w : World) (hb : Bs w a l) (hl : l.length = len) (hc : len ≤ cap) (hm : cap ≤ 9223372036854775807) :
   Calls Try.prog 37 #[.slice a len cap] w fun e w' => e = .returned (.tuple #[.int .u32 (un (sum32 l 0#32)), .int .u64 (un (sum128 l 0#32).1), .int .u64 (un (sum128 l 0#32).1), .int .u64 (un (sum128 l 0#32).2)]) ∧ Below w.heap.size w w' := by
  have Hl := Lib.hid hl
  have Hb := Lib.hid (Low.of hb)
  clear hl hb
  go_enter Try.func37, Try.ntmps37
  go_wp2_with fail
  refine (new32_0 _).mono ?_
  rintro e w1 ⟨rfl, s1, b1, z1⟩
  go_wp2_with fail
  refine (new64_0 _).mono ?_
  rintro e w2 ⟨rfl, s2, b2, z2⟩
  go_wp2_with fail
  refine (new128_0 _).mono ?_
  rintro e w3 ⟨rfl, s3, b3, z3⟩
  have S0 : Sums w.heap.size 0#32 [] w3 := ⟨(s1.keep (b2.block _ (by omega))).keep (b3.block _ (by omega)), by rw [← z1]; exact s2.keep (b3.block _ (by omega)), by rw [show w.heap.size + 2 = w2.heap.size from by omega]; exact s3⟩
  have L0 := ((Hb.out.below b1 (Nat.le_refl _)).below b2 (by omega)).below b3 (by omega)
  have bw : Below w.heap.size w w3 := b1.trans ((b2.mono (by omega)).trans (b3.mono (by omega)))
  have e2 : w2.heap.size = w.heap.size + 2 := by omega
  rw [e2]
  have e3 : w3.heap.size = w.heap.size + 3 := by omega
  clear s1 s2 s3 b1 b2 b3 z1 z2 z3
  go_wp2_with fail
  refine wp_loop_rounds 4 ?_
  rw [rounds_succ]
  go_wp2_with fail
  have bW : Below w3.heap.size w3 (w3.alloc (.cells #[.iface 114 (.pointer (some ⟨w.heap.size, 0, none⟩)), .iface 117 (.pointer (some ⟨w.heap.size + 1, 0, none⟩)), .iface 103 (.pointer (some ⟨w.heap.size + 2, 0, none⟩))] 82)) := (Below.refl w3.heap.size w3).alloc (Nat.le_refl _) _
  have gW := heap_alloc_new w3 (.cells #[.iface 114 (.pointer (some ⟨w.heap.size, 0, none⟩)), .iface 117 (.pointer (some ⟨w.heap.size + 1, 0, none⟩)), .iface 103 (.pointer (some ⟨w.heap.size + 2, 0, none⟩))] 82)
  rw [e3] at gW
  generalize World.alloc w3 (.cells #[.iface 114 (.pointer (some ⟨w.heap.size, 0, none⟩)), .iface 117 (.pointer (some ⟨w.heap.size + 1, 0, none⟩)), .iface 103 (.pointer (some ⟨w.heap.size + 2, 0, none⟩))] 82) = W at bW gW ⊢
  have S1 := S0.below bW
  have L1 := L0.below bW (by omega)
  have bw1 : Below w.heap.size w W := bw.trans (bW.mono (by omega))
  have cells : ∀ w' : World, w'.heap[w.heap.size + 3]? = W.heap[w.heap.size + 3]? → w'.cell? ⟨w.heap.size + 3, 0, none⟩ = some (.iface 114 (.pointer (some ⟨w.heap.size, 0, none⟩))) ∧
      w'.cell? ⟨w.heap.size + 3, 1, none⟩ = some (.iface 117 (.pointer (some ⟨w.heap.size + 1, 0, none⟩))) ∧ w'.cell? ⟨w.heap.size + 3, 2, none⟩ = some (.iface 103 (.pointer (some ⟨w.heap.size + 2, 0, none⟩))) := fun w' h =>
    ⟨cell_of_row w' _ 0 _ 82 (0, 0) (h.trans gW), cell_of_row w' _ 1 _ 82 (0, 0) (h.trans gW), cell_of_row w' _ 2 _ 82 (0, 0) (h.trans gW)⟩
  have Hcells := Lib.hid cells
  clear cells bW gW
  refine (write32 w.heap.size 0#32 [] a len cap l _ S1.s32 (L1.far (Nat.le_refl _)) Hl.out hc hm (by have := Hl.out; simp; omega)).mono ?_
  rintro e v1 ⟨rfl, o1, s1⟩
  obtain ⟨c0, c1, c2⟩ := Hcells.out v1 (o1.block _ (by omega))
  go_wp2_with fail
  rw [rounds_succ]
  go_wp2_with fail
  have T1 := S1.s64.keep (o1.block _ (by omega))
  have L2 := L1.below (o1.below (Nat.le_refl _)) (Nat.le_refl _)
  clear c0 c1 c2
  refine (write128 (w.heap.size + 1) 0#32 [] a len cap l _ T1 (L2.far (by omega)) Hl.out hc hm (by have := Hl.out; simp; omega)).mono ?_
  rintro e v2 ⟨rfl, o2, s2⟩
  obtain ⟨c0, c1, c2⟩ := Hcells.out v2 ((o2.block _ (by omega)).trans (o1.block _ (by omega)))
  go_wp2_with fail
  rw [rounds_succ]
  go_wp2_with fail
  have T2 := S1.s128.keep ((o2.block (w.heap.size + 2) (by omega)).trans (o1.block _ (by omega)))
  have L3 := L2.below (o2.below (Nat.le_succ _)) (Nat.le_refl _)
  clear c0 c1 c2
  refine (write128 (w.heap.size + 2) 0#32 [] a len cap l _ T2 (L3.far (by omega)) Hl.out hc hm (by have := Hl.out; simp; omega)).mono ?_
  rintro e v3 ⟨rfl, o3, s3⟩
  have S : Sums w.heap.size 0#32 l v3 := ⟨s1.keep ((o3.block _ (by omega)).trans (o2.block _ (by omega))), s2.keep (o3.block _ (by omega)), s3⟩
  have bw2 : Below w.heap.size w v3 := bw1.trans ((o1.below (Nat.le_refl _)).trans ((o2.below (Nat.le_succ _)).trans (o3.below (by omega))))
  clear s1 s2 s3 o1 o2 o3 Hcells T1 T2 L1 L2 L3 L0 S0 S1
  go_wp2_with fail
  rw [rounds_succ]
  go_wp2_with fail
  refine (dsumSt128 _ _ _ _ S.s128).mono ?_
  rintro e v4 ⟨rfl, n4, rfl⟩
  go_wp2_with fail
  refine (dsumSt32 _ _ _ _ (S.drewN n4).s32).mono ?_
  rintro e v5 ⟨rfl, n5, rfl⟩
  go_wp2_with fail
  refine (dsumSt64 _ _ _ _ (S.drewN (n4 + n5)).s64).mono ?_
  rintro e v6 ⟨rfl, n6, rfl⟩
  go_wp2_with fail
  refine bodyPost_ret (v := .tuple #[.int .u32 (un (sum32 l 0#32)), .int .u64 (un (sum128 l 0#32).1), .int .u64 (un (sum128 l 0#32).1), .int .u64 (un (sum128 l 0#32).2)]) (by simp [results, Try.results37, go_sem]) rfl ?_
  first | exact ⟨rfl, below_drewN bw2 _⟩ | exact ⟨rfl, below_drewN (below_drewN bw2 _) _⟩
theorem s128_0 (a : Option Addr) (len cap : Nat) (l : List UInt8) (w : World) (hb : Bs w a l) (hl : l.length = len) (hc : len ≤ cap) (hm : cap ≤ 9223372036854775807) :
   Calls Try.prog 62 #[.slice a len cap] w fun e w' => e = .returned (.tuple #[.int .u64 (un (sum128 l 0#32).1), .int .u64 (un (sum128 l 0#32).2)]) ∧ Below w.heap.size w w' := by
  have Hl := Lib.hid hl
  have Hb := Lib.hid hb
  clear hl hb
  go_enter Try.func62, Try.ntmps62
  go_wp2_with fail
  refine (sum128_any a len cap l 0#32 _ Hb.out Hl.out hc hm).mono ?_
  rintro e w1 ⟨rfl, b1⟩
  go_wp2_with fail
  go_ret2
  exact ⟨rfl, b1⟩
theorem s32_0 (a : Option Addr) (len cap : Nat) (l : List UInt8) (w : World) (hb : Bs w a l) (hl : l.length = len) (hc : len ≤ cap) (hm : cap ≤ 9223372036854775807) :
   Calls Try.prog 63 #[.slice a len cap] w fun e w' => e = .returned (.int .u32 (un (sum32 l 0#32))) ∧ Below w.heap.size w w' := by
  have Hl := Lib.hid hl
  have Hb := Lib.hid hb
  clear hl hb
  go_enter Try.func63, Try.ntmps63
  go_wp2_with fail
  refine (sum32_any a len cap l 0#32 _ Hb.out Hl.out hc hm).mono ?_
  rintro e w1 ⟨rfl, n, rfl⟩
  go_wp2_with fail
  go_ret
  exact ⟨rfl, below_drewN (Below.refl _ _) n⟩
theorem s64_0 (a : Option Addr) (len cap : Nat) (l : List UInt8) (w : World) (hb : Bs w a l) (hl : l.length = len) (hc : len ≤ cap) (hm : cap ≤ 9223372036854775807) :
   Calls Try.prog 64 #[.slice a len cap] w fun e w' => e = .returned (.int .u64 (un (sum128 l 0#32).1)) ∧ Below w.heap.size w w' := by
  have Hl := Lib.hid hl
  have Hb := Lib.hid hb
  clear hl hb
  go_enter Try.func64, Try.ntmps64
  go_wp2_with fail
  refine (sum64_any a len cap l 0#32 _ Hb.out Hl.out hc hm).mono ?_
  rintro e w1 ⟨rfl, b1⟩
  go_wp2_with fail
  go_ret
  exact ⟨rfl, b1⟩
theorem bare_any (a : Option Addr) (len cap : Nat) (l : List UInt8) (w : World) (hb : Bs w a l) (hl : l.length = len) (hc : len ≤ cap) (hm : cap ≤ 9223372036854775807) :
   Calls Try.prog 36 #[.slice a len cap] w fun e w' => e = .returned (.tuple #[.int .u32 (un (sum32 l 0#32)), .int .u64 (un (sum128 l 0#32).1), .int .u64 (un (sum128 l 0#32).1), .int .u64 (un (sum128 l 0#32).2)]) ∧ Below w.heap.size w w' := by
  have Hl := Lib.hid hl
  clear hl
  go_enter Try.func36, Try.ntmps36
  go_wp2_with fail
  refine (s128_0 a len cap l _ hb Hl.out hc hm).mono ?_
  rintro e w1 ⟨rfl, b1⟩
  go_wp2_with fail
  refine (s32_0 a len cap l _ (hb.mem b1) Hl.out hc hm).mono ?_
  rintro e w2 ⟨rfl, b2⟩
  have b12 := b1.trans (b2.mono b1.size)
  go_wp2_with fail
  refine (s64_0 a len cap l _ (hb.mem b12) Hl.out hc hm).mono ?_
  rintro e w3 ⟨rfl, b3⟩
  go_wp2_with fail
  refine bodyPost_ret (v := .tuple #[.int .u32 (un (sum32 l 0#32)), .int .u64 (un (sum128 l 0#32).1), .int .u64 (un (sum128 l 0#32).1), .int .u64 (un (sum128 l 0#32).2)]) (by simp [results, Try.results36, go_sem]) rfl ?_
  exact ⟨rfl, b12.trans (b3.mono b12.size)⟩
end Go.Proofs.Ytfnejnoldonfeaa
