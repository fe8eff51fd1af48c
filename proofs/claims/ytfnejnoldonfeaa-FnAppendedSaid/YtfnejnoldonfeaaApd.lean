/-
  impl.Appended, impl.Sizes.
  Conditions: the bytes lie in memory.
-/
import Derived.Test.YtfnejnoldonfeaaClo
import Derived.Test.YtfnejnoldonfeaaH7
import Derived.Test.YtfnejnoldonfeaaH4Q
import Derived.Test.YtfnejnoldonfeaaQt
namespace Go.Proofs.Ytfnejnoldonfeaa
open Go.RowKit BigFrame

theorem Own.farSet {w : World} {base len cap : Nat} {a : Option Addr} {l : List UInt8} (h : Own w base a len cap l) (b i : Nat) (v : Value) (hb : b < base) : Own (w.setCell ⟨b, i, none⟩ v) base a len cap l :=
  h.block fun k hk => Below.heap_setCell _ _ _ _ (by show k ≠ b; have := (h.lt k hk).1; omega)
set_option maxRecDepth 100000 in
set_option maxHeartbeats 1600000 in
theorem sizes_any (w : World) : Calls Try.prog 34 #[] w fun e w' => e = .returned (.agg #[.int .i64 4, .int .i64 16]) ∧ Below w.heap.size w w' := by
  go_enter Try.func34, Try.ntmps34
  go_wp2_with fail
  refine (seeded_any 0#32 _).mono ?_
  rintro e w1 ⟨rfl, s1, b1, z1⟩
  have za : (w.alloc (.cells #[.int .i64 0, .int .i64 0] 50)).heap.size = w.heap.size + 1 := by simp
  unfold sumsV
  rw [za] at s1 ⊢
  go_wp2_with fail
  have g1 := heap_alloc_new w (.cells #[.int .i64 0, .int .i64 0] 50)
  have b0 : Below w.heap.size w (w.alloc (.cells #[.int .i64 0, .int .i64 0] 50)) := (Below.refl w.heap.size w).alloc (Nat.le_refl _) _
  have g2 := (b1.block w.heap.size (by omega)).trans g1
  have b01 := b0.trans (b1.mono (by omega))
  have g3 := heap_alloc_new w1 (.cells #[.iface 114 (.pointer (some ⟨w.heap.size + 1 + 1, 0, none⟩)), .iface 117 (.pointer (some ⟨w.heap.size + 1 + 1 + 1, 0, none⟩)), .iface 103 (.pointer (some ⟨w.heap.size + 1 + 1 + 2, 0, none⟩))] 78)
  have b2 : Below w1.heap.size w1 (w1.alloc (.cells #[.iface 114 (.pointer (some ⟨w.heap.size + 1 + 1, 0, none⟩)), .iface 117 (.pointer (some ⟨w.heap.size + 1 + 1 + 1, 0, none⟩)), .iface 103 (.pointer (some ⟨w.heap.size + 1 + 1 + 2, 0, none⟩))] 78)) := (Below.refl _ _).alloc (Nat.le_refl _) _
  generalize World.alloc w1 (.cells #[.iface 114 (.pointer (some ⟨w.heap.size + 1 + 1, 0, none⟩)), .iface 117 (.pointer (some ⟨w.heap.size + 1 + 1 + 1, 0, none⟩)), .iface 103 (.pointer (some ⟨w.heap.size + 1 + 1 + 2, 0, none⟩))] 78) = W at g3 b2 ⊢
  have g2 := (b2.block w.heap.size (by omega)).trans g2
  have bw := b01.trans (b2.mono (by omega))
  have c0 : W.cell? ⟨w1.heap.size, 0, none⟩ = some (.iface 114 (.pointer (some ⟨w.heap.size + 1 + 1, 0, none⟩))) := cell_of_row W _ 0 _ 78 (0, 0) g3
  have c2 : W.cell? ⟨w1.heap.size, 2, none⟩ = some (.iface 103 (.pointer (some ⟨w.heap.size + 1 + 1 + 2, 0, none⟩))) := cell_of_row W _ 2 _ 78 (0, 0) g3
  rw [za] at z1
  rw [z1] at c0 c2
  clear g3 g1 b0 b01 b1 b2 s1
  refine wp_region_quiet_tail (fun w' => ∃ n, w' = W.drewN n) 7 (by kernel_rfl) (by kernel_rfl) ⟨1, rfl⟩ ?_
  simp only [List.take_succ_cons, List.take_zero, List.drop_succ_cons, List.drop_zero]
  repeat (go_big_quiet_step (fail))
  refine wpQuiet_inv rfl _ _ rfl _ _ rfl 100 (fun W => msize32 (w.heap.size + 1 + 1) W) (.int .i64 4) (by rintro _ ⟨n, rfl⟩; exact Calls.quiet_of_same ((size32_any (.pointer (some ⟨w.heap.size + 1 + 1, 0, none⟩)) _).mono fun e w' h => ⟨h.1, h.2.symm⟩)) ?_
  simp only [Act.put, List.setIfInBounds_toArray, List.set_cons_succ, List.set_cons_zero]
  repeat (go_big_quiet_step (fail))
  refine wpQuiet_inv rfl _ _ rfl _ _ rfl 77 (fun W => msize128 (w.heap.size + 1 + 1 + 2) W) (.int .i64 16) (by rintro _ ⟨n, rfl⟩; exact Calls.quiet_of_same ((size128_any (.pointer (some ⟨w.heap.size + 1 + 1 + 2, 0, none⟩)) _).mono fun e w' h => ⟨h.1, h.2.symm⟩)) ?_
  simp only [Act.put, List.setIfInBounds_toArray, List.set_cons_succ, List.set_cons_zero]
  repeat (go_big_quiet_step (fail))
  refine wpQuiet_nil ?_
  rintro _ ⟨nq, rfl⟩
  have hbw : Below w.heap.size w (W.drewN nq) := below_drewN bw nq
  have g3 : (W.drewN nq).heap[w.heap.size]? = some (.cells #[.int .i64 0, .int .i64 0] 50 (0, 0)) := g2
  generalize W.drewN nq = w3 at hbw g3 ⊢
  have d0 : w3.cell? ⟨w.heap.size, 0, none⟩ = some (.int .i64 0) := cell_of_row w3 _ 0 _ 50 (0, 0) g3
  have d1 : w3.cell? ⟨w.heap.size, 1, none⟩ = some (.int .i64 0) := cell_of_row w3 _ 1 _ 50 (0, 0) g3
  have f0 := frozen_row w3 _ 0 _ 50 g3
  have f1 := frozen_row w3 _ 1 _ 50 g3
  clear g3 g2
  go_wp2_with fail
  refine bodyPost_ret (v := .agg #[.int .i64 4, .int .i64 16]) (by simp [results, Try.results34, go_sem, d0, d1]) rfl ⟨rfl, (hbw.setCell (Nat.le_refl _) _).setCell (Nat.le_refl _) _⟩
set_option maxRecDepth 100000 in
set_option maxHeartbeats 1600000 in
theorem appended_any (seed : BitVec 32) (a : Option Addr) (len cap : Nat) (l : List UInt8) (A : Option Addr) (m c : Nat) (q : List UInt8) (w : World) (hb : Bs w a l) (hl : l.length = len) (hc : len ≤ cap) (hm : cap ≤ 9223372036854775807)
    (hq : Bs w A q) (hlq : q.length = m) (hlen : m ≤ 2147483647) :
   Calls Try.prog 33 #[.int .u32 (un seed), .slice a len cap, .slice A m c] w fun e w' => ∃ a1 c1 a2 c2 a3 c3, e = .returned (.agg #[.slice a1 (m + 4) c1, .slice a2 (m + 8) c2, .slice a3 (m + 16) c3]) ∧ Below w.heap.size w w' ∧
     Bs w' a1 (q ++ be4 (sum32 l seed)) ∧ Bs w' a2 (q ++ be8 (sum128 l seed).1) ∧ Bs w' a3 (q ++ (be8 (sum128 l seed).1 ++ be8 (sum128 l seed).2)) := by
  have Hl := Lib.hid hl
  have Hq := Lib.hid (Low.of hq)
  have Hlq := Lib.hid hlq
  have Hb := Lib.hid (Low.of hb)
  clear hl hb hq hlq
  go_enter Try.func33, Try.ntmps33
  go_wp2_with fail
  have zA : (w.alloc (.cells #[.slice A m c] 22)).heap.size = w.heap.size + 1 := by simp
  have zB : ((w.alloc (.cells #[.slice A m c] 22)).alloc (.cells #[.slice none 0 0, .slice none 0 0, .slice none 0 0] 48)).heap.size = w.heap.size + 2 := by simp
  have bA : Below w.heap.size w ((w.alloc (.cells #[.slice A m c] 22)).alloc (.cells #[.slice none 0 0, .slice none 0 0, .slice none 0 0] 48)) := ((Below.refl w.heap.size w).alloc (Nat.le_refl _) _).alloc (by omega) _
  have gA : ((w.alloc (.cells #[.slice A m c] 22)).alloc (.cells #[.slice none 0 0, .slice none 0 0, .slice none 0 0] 48)).heap[w.heap.size]? = some (.cells #[.slice A m c] 22 (0, 0)) :=
    (((Below.refl (w.heap.size + 1) (w.alloc (.cells #[.slice A m c] 22))).alloc (by omega) _).block w.heap.size (by omega)).trans (heap_alloc_new w _)
  have gB := heap_alloc_new (w.alloc (.cells #[.slice A m c] 22)) (.cells #[.slice none 0 0, .slice none 0 0, .slice none 0 0] 48)
  rw [zA] at gB
  generalize (w.alloc (.cells #[.slice A m c] 22)).alloc (.cells #[.slice none 0 0, .slice none 0 0, .slice none 0 0] 48) = W at zB bA gA gB ⊢
  refine (seeded_any seed W).mono ?_
  rintro e w1 ⟨rfl, s1, b1, z1⟩
  rw [zB] at s1 b1 z1 ⊢
  unfold sumsV
  go_wp2_with fail
  have zC : (w1.alloc (.cells #[.iface 114 (.pointer (some ⟨w.heap.size + 2 + 1, 0, none⟩)), .iface 117 (.pointer (some ⟨w.heap.size + 2 + 1 + 1, 0, none⟩)), .iface 103 (.pointer (some ⟨w.heap.size + 2 + 1 + 2, 0, none⟩))] 78)).heap.size = w1.heap.size + 1 := by simp
  have bC : Below w1.heap.size w1 (w1.alloc (.cells #[.iface 114 (.pointer (some ⟨w.heap.size + 2 + 1, 0, none⟩)), .iface 117 (.pointer (some ⟨w.heap.size + 2 + 1 + 1, 0, none⟩)), .iface 103 (.pointer (some ⟨w.heap.size + 2 + 1 + 2, 0, none⟩))] 78)) := (Below.refl _ _).alloc (Nat.le_refl _) _
  have gC := heap_alloc_new w1 (.cells #[.iface 114 (.pointer (some ⟨w.heap.size + 2 + 1, 0, none⟩)), .iface 117 (.pointer (some ⟨w.heap.size + 2 + 1 + 1, 0, none⟩)), .iface 103 (.pointer (some ⟨w.heap.size + 2 + 1 + 2, 0, none⟩))] 78)
  generalize w1.alloc (.cells #[.iface 114 (.pointer (some ⟨w.heap.size + 2 + 1, 0, none⟩)), .iface 117 (.pointer (some ⟨w.heap.size + 2 + 1 + 1, 0, none⟩)), .iface 103 (.pointer (some ⟨w.heap.size + 2 + 1 + 2, 0, none⟩))] 78) = W2 at zC bC gC ⊢
  have S2 := s1.below bC
  have b02 : Below w.heap.size w W2 := bA.trans ((b1.mono (by omega)).trans (bC.mono (by omega)))
  refine (writes_any (w.heap.size + 2 + 1) seed [] a len cap l W2 S2 ((Hb.out.below b02 (Nat.le_refl _)).mono (by omega)) Hl.out hc hm (by have := Hl.out; simp; omega)).mono ?_
  rintro e w3 ⟨rfl, t3, s3⟩
  have z3 := t3.size
  have gA3 : w3.heap[w.heap.size]? = some (.cells #[.slice A m c] 22 (0, 0)) := (t3.block _ (by omega) (by omega)).trans ((bC.block _ (by omega)).trans ((b1.block _ (by omega)).trans gA))
  have gB3 : w3.heap[w.heap.size + 1]? = some (.cells #[.slice none 0 0, .slice none 0 0, .slice none 0 0] 48 (0, 0)) := (t3.block _ (by omega) (by omega)).trans ((bC.block _ (by omega)).trans ((b1.block _ (by omega)).trans gB))
  have gC3 : w3.heap[w.heap.size + 2 + 4]? = some (.cells #[.iface 114 (.pointer (some ⟨w.heap.size + 2 + 1, 0, none⟩)), .iface 117 (.pointer (some ⟨w.heap.size + 2 + 1 + 1, 0, none⟩)), .iface 103 (.pointer (some ⟨w.heap.size + 2 + 1 + 2, 0, none⟩))] 78 (0, 0)) := by rw [z1] at gC; exact (t3.block _ (by omega) (by omega)).trans gC
  have b03 : Below w.heap.size w w3 := b02.trans (t3.below (by omega) (by omega))
  have hq3 := Lib.hid (Hq.out.below b03 (Nat.le_refl _)).bs
  simp only [List.nil_append] at s3
  have S3 := Lib.hid s3
  have zz : w.heap.size + 7 ≤ w3.heap.size := by omega
  clear gA gB gC bA bC b1 b02 t3 S2 s1 s3 zA zB zC z1 z3
  have hN := cell_of_row w3 _ 0 _ 22 (0, 0) gA3
  have hbox : w3.cell? ⟨w.heap.size, 0, none⟩ = some (.slice A m c) := hN
  have k0 : w3.cell? ⟨w.heap.size + 2 + 4, 0, none⟩ = some (.iface 114 (.pointer (some ⟨w.heap.size + 2 + 1, 0, none⟩))) := cell_of_row w3 _ 0 _ 78 (0, 0) gC3
  have k1 : w3.cell? ⟨w.heap.size + 2 + 4, 1, none⟩ = some (.iface 117 (.pointer (some ⟨w.heap.size + 2 + 1 + 1, 0, none⟩))) := cell_of_row w3 _ 1 _ 78 (0, 0) gC3
  have k2 : w3.cell? ⟨w.heap.size + 2 + 4, 2, none⟩ = some (.iface 103 (.pointer (some ⟨w.heap.size + 2 + 1 + 2, 0, none⟩))) := cell_of_row w3 _ 2 _ 78 (0, 0) gC3
  clear hN
  go_wp2_with fail
  have Hst : ∀ W' : World, Below w3.heap.size w3 W' → (W'.cell? ⟨w.heap.size + 2 + 4, 0, none⟩ = some (.iface 114 (.pointer (some ⟨w.heap.size + 2 + 1, 0, none⟩))) ∧ W'.cell? ⟨w.heap.size + 2 + 4, 1, none⟩ = some (.iface 117 (.pointer (some ⟨w.heap.size + 2 + 1 + 1, 0, none⟩))) ∧
      W'.cell? ⟨w.heap.size + 2 + 4, 2, none⟩ = some (.iface 103 (.pointer (some ⟨w.heap.size + 2 + 1 + 2, 0, none⟩)))) := fun W' h =>
    ⟨(h.cell (by show w.heap.size + 2 + 4 < _; omega)).trans k0, (h.cell (by show w.heap.size + 2 + 4 < _; omega)).trans k1, (h.cell (by show w.heap.size + 2 + 4 < _; omega)).trans k2⟩
  have b4 : Below w3.heap.size w3 w3.drew := ⟨rfl, rfl, rfl, Nat.le_refl _, fun _ _ => rfl⟩
  have hS0 := Hst _ b4
  have SD := Lib.hid (S3.out.below b4)
  have hqD := Lib.hid (hq3.out.mem b4)
  have lt0 : w.heap.size < w3.heap.size := by omega
  have hboxD := Lib.hid ((b4.cell (p := ⟨w.heap.size, 0, none⟩) lt0).trans hbox)
  go_region_held_law (fun W' => W'.cell? ⟨w.heap.size + 2 + 4, 0, none⟩ = some (.iface 114 (.pointer (some ⟨w.heap.size + 2 + 1, 0, none⟩))) ∧ W'.cell? ⟨w.heap.size + 2 + 4, 1, none⟩ = some (.iface 117 (.pointer (some ⟨w.heap.size + 2 + 1 + 1, 0, none⟩))) ∧ W'.cell? ⟨w.heap.size + 2 + 4, 2, none⟩ = some (.iface 103 (.pointer (some ⟨w.heap.size + 2 + 1 + 2, 0, none⟩)))) (first | assumption | exact hS0 | go_keep) (first
    | (go_at_call 61; refine (clo128_any (w.heap.size + 2 + 1 + 2) seed l w.heap.size A m c q w5 (S3.out.below bb5).s128 ((bb5.cell (p := ⟨w.heap.size, 0, none⟩) lt0).trans hbox) (hq3.out.mem bb5) Hlq.out hlen).mono ?_; rintro e w6 ⟨a3, c3, rfl, hown3, hb6⟩; have bb6 := bb5.trans (hb6.mono bb5.size); have hS6 := Hst w6 bb6; have gB6 := (bb6.block (w.heap.size + 1) (by omega)).trans gB3; have r0 : w6.cell? ⟨w.heap.size + 1, 0, none⟩ = some (.slice none 0 0) := cell_of_row w6 _ 0 _ 48 (0, 0) gB6; have r1 : w6.cell? ⟨w.heap.size + 1, 1, none⟩ = some (.slice none 0 0) := cell_of_row w6 _ 1 _ 48 (0, 0) gB6; have r2 : w6.cell? ⟨w.heap.size + 1, 2, none⟩ = some (.slice none 0 0) := cell_of_row w6 _ 2 _ 48 (0, 0) gB6; have q0 := frozen_row w6 _ 0 _ 48 gB6; have q1 := frozen_row w6 _ 1 _ 48 gB6; have q2 := frozen_row w6 _ 2 _ 48 gB6; clear gB6)
    | (go_at_call 61; refine (clo64_any (w.heap.size + 2 + 1 + 1) seed l w.heap.size A m c q w4 (S3.out.below bb4).s64 ((bb4.cell (p := ⟨w.heap.size, 0, none⟩) lt0).trans hbox) (hq3.out.mem bb4) Hlq.out hlen).mono ?_; rintro e w5 ⟨a2, c2, rfl, hown2, hb5⟩; have bb5 := bb4.trans (hb5.mono bb4.size); have hS5 := Hst w5 bb5)
    | (go_at_call 61; refine (clo32_any (w.heap.size + 2 + 1) seed l w.heap.size A m c q _ SD.out.s32 hboxD.out hqD.out Hlq.out hlen).mono ?_; rintro e w4 ⟨a1, c1, rfl, hown1, hb4⟩; have bb4 := b4.trans hb4; have hS4 := Hst w4 bb4))
  all_goals
    have x1 : Own w6 w3.heap.size a1 (m + 4) c1 (q ++ be4 (sum32 l seed)) := (hown1.below hb5).below hb6
    have x2 : Own w6 w3.heap.size a2 (m + 8) c2 (q ++ be8 (sum128 l seed).1) := (hown2.below hb6).less bb4.size
    have x3 : Own w6 w3.heap.size a3 (m + 16) c3 (q ++ (be8 (sum128 l seed).1 ++ be8 (sum128 l seed).2)) := hown3.less bb5.size
    have b06 : Below w.heap.size w w6 := b03.trans (bb6.mono (by omega))
    go_wp2_with fail
    refine bodyPost_ret (v := .agg #[.slice a1 (m + 4) c1, .slice a2 (m + 8) c2, .slice a3 (m + 16) c3]) (by simp [results, Try.results33, go_sem, r0, r1, r2]) rfl ⟨a1, c1, a2, c2, a3, c3, rfl, ((b06.setCell (by show w.heap.size ≤ w.heap.size + 1; omega) _).setCell (by show w.heap.size ≤ w.heap.size + 1; omega) _).setCell (by show w.heap.size ≤ w.heap.size + 1; omega) _, ?_, ?_, ?_⟩
    · exact (((x1.farSet (w.heap.size + 1) 0 _ (by omega)).farSet (w.heap.size + 1) 1 _ (by omega)).farSet (w.heap.size + 1) 2 _ (by omega)).bs
    · exact (((x2.farSet (w.heap.size + 1) 0 _ (by omega)).farSet (w.heap.size + 1) 1 _ (by omega)).farSet (w.heap.size + 1) 2 _ (by omega)).bs
    · exact (((x3.farSet (w.heap.size + 1) 0 _ (by omega)).farSet (w.heap.size + 1) 1 _ (by omega)).farSet (w.heap.size + 1) 2 _ (by omega)).bs
end Go.Proofs.Ytfnejnoldonfeaa
