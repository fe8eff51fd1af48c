/-
  impl.Turns.
  Conditions: the slices lie in memory, and are small together.
-/
import Derived.Test.YtfnejnoldonfeaaNxt
namespace Go.Proofs.Ytfnejnoldonfeaa
open Go.RowKit BigFrame
/-- What the round of impl.Turns keeps. -/
structure Two (w W : World) (s1 s2 : BitVec 32) (l q : List UInt8) (wr : World) : Prop where
  one : Sums (w.heap.size + 2 + 1) s1 l wr
  two : Sums (w.heap.size + 2 + 4 + 1) s2 q wr
  res1 : wr.heap[w.heap.size]? = W.heap[w.heap.size]?
  res2 : wr.heap[w.heap.size + 1]? = W.heap[w.heap.size + 1]?
  box1 : wr.heap[w.heap.size + 2 + 4 + 4]? = W.heap[w.heap.size + 2 + 4 + 4]?
  box2 : wr.heap[w.heap.size + 2 + 4 + 4 + 1]? = W.heap[w.heap.size + 2 + 4 + 4 + 1]?
  bel : Below w.heap.size w wr
  size : w.heap.size + 2 + 4 + 4 + 1 < wr.heap.size
theorem Two.turn1 {w W : World} {s1 s2 : BitVec 32} {l l' q : List UInt8} {wr w' : World} (t : Two w W s1 s2 l q wr) (n : Nat) (h : Turn (w.heap.size + 2 + 1) 3 (wr.drewN n) w') (s : Sums (w.heap.size + 2 + 1) s1 l' w') : Two w W s1 s2 l' q w' :=
  have hz := t.size
  have hb : ∀ k, k < wr.heap.size → (k < w.heap.size + 2 + 1 ∨ w.heap.size + 2 + 1 + 3 ≤ k) → w'.heap[k]? = wr.heap[k]? := fun k h1 h2 => h.block k h1 h2
  ⟨s, t.two.stay (fun k h1 h2 => hb k (by omega) (by omega)), (hb _ (by omega) (by omega)).trans t.res1, (hb _ (by omega) (by omega)).trans t.res2, (hb _ (by omega) (by omega)).trans t.box1, (hb _ (by omega) (by omega)).trans t.box2,
    (below_drewN t.bel n).trans (h.below (by omega) t.bel.size), Nat.lt_of_lt_of_le hz h.size⟩
theorem Two.turn2 {w W : World} {s1 s2 : BitVec 32} {l q q' : List UInt8} {wr w' : World} (t : Two w W s1 s2 l q wr) (n : Nat) (h : Turn (w.heap.size + 2 + 4 + 1) 3 (wr.drewN n) w') (s : Sums (w.heap.size + 2 + 4 + 1) s2 q' w') : Two w W s1 s2 l q' w' :=
  have hz := t.size
  have hb : ∀ k, k < wr.heap.size → (k < w.heap.size + 2 + 4 + 1 ∨ w.heap.size + 2 + 4 + 1 + 3 ≤ k) → w'.heap[k]? = wr.heap[k]? := fun k h1 h2 => h.block k h1 h2
  ⟨t.one.stay (fun k h1 h2 => hb k (by omega) (by omega)), s, (hb _ (by omega) (by omega)).trans t.res1, (hb _ (by omega) (by omega)).trans t.res2, (hb _ (by omega) (by omega)).trans t.box1, (hb _ (by omega) (by omega)).trans t.box2,
    (below_drewN t.bel n).trans (h.below (by omega) t.bel.size), Nat.lt_of_lt_of_le hz h.size⟩
theorem pre_past (L : List Sl) (k : Nat) (h : L.length ≤ k) : pre L (k + 1) = pre L k := by
  unfold pre; rw [List.take_of_length_le (by omega), List.take_of_length_le h]
theorem pre_top (L : List Sl) (n k : Nat) (hn : L.length = n) (h : n ≤ k) : pre L k = pre L n := by
  unfold pre; rw [List.take_of_length_le (by omega), List.take_of_length_le (by omega)]
set_option maxRecDepth 100000 in
set_option maxHeartbeats 1600000 in
theorem turns_any (s1 s2 : BitVec 32) (P : Option Addr) (n c : Nat) (L : List Sl) (Q : Option Addr) (m d : Nat) (M : List Sl) (w : World) (hL : Ls w P L) (sL : Sm L n) (hM : Ls w Q M) (sM : Sm M m) :
    Calls Try.prog 38 #[.int .u32 (un s1), .int .u32 (un s2), .slice P n c, .slice Q m d] w fun e w' => e = .returned (.tuple #[tv (pre L n) s1, tv (pre M m) s2]) ∧ Below w.heap.size w w' := by
  have HL := Lib.hid hL
  have SL := Lib.hid sL
  have HM := Lib.hid hM
  have SM := Lib.hid sM
  have hnn := sL.hnn
  have hmm := sM.hnn
  clear hL sL hM sM
  go_enter Try.func38, Try.ntmps38
  go_wp2_with fail
  have gR := (((Below.refl (w.heap.size + 1) _).alloc (by simp) (.cells #[.int .u32 0, .int .u64 0, .int .u64 0, .int .u64 0] 38)).block w.heap.size (by omega)).trans (heap_alloc_new w (.cells #[.int .u32 0, .int .u64 0, .int .u64 0, .int .u64 0] 38))
  have gT := heap_alloc_new (w.alloc (.cells #[.int .u32 0, .int .u64 0, .int .u64 0, .int .u64 0] 38)) (.cells #[.int .u32 0, .int .u64 0, .int .u64 0, .int .u64 0] 38)
  have bR : Below w.heap.size w ((w.alloc (.cells #[.int .u32 0, .int .u64 0, .int .u64 0, .int .u64 0] 38)).alloc (.cells #[.int .u32 0, .int .u64 0, .int .u64 0, .int .u64 0] 38)) := ((Below.refl _ _).alloc (Nat.le_refl _) _).alloc (by simp) _
  have zR : ((w.alloc (.cells #[.int .u32 0, .int .u64 0, .int .u64 0, .int .u64 0] 38)).alloc (.cells #[.int .u32 0, .int .u64 0, .int .u64 0, .int .u64 0] 38)).heap.size = w.heap.size + 2 := by simp
  rw [show (w.alloc (.cells #[.int .u32 0, .int .u64 0, .int .u64 0, .int .u64 0] 38)).heap.size = w.heap.size + 1 from by simp] at gT
  generalize ((w.alloc (.cells #[.int .u32 0, .int .u64 0, .int .u64 0, .int .u64 0] 38)).alloc (.cells #[.int .u32 0, .int .u64 0, .int .u64 0, .int .u64 0] 38)) = wa at gR gT bR zR ⊢
  refine (seeded_any s1 _).mono ?_
  rintro e w1 ⟨rfl, x1, b1, z1⟩
  rw [zR] at x1 b1 z1
  unfold sumsV
  have gR := (b1.block w.heap.size (by omega)).trans gR
  have gT := (b1.block (w.heap.size + 1) (by omega)).trans gT
  have b01 := bR.trans (b1.mono (by omega))
  go_wp2_with fail
  refine (seeded_any s2 _).mono ?_
  rintro e w2 ⟨rfl, x2, b2, z2⟩
  rw [z1] at x2 b2 z2
  unfold sumsV
  have gR := (b2.block w.heap.size (by omega)).trans gR
  have gT := (b2.block (w.heap.size + 1) (by omega)).trans gT
  have b02 := b01.trans (b2.mono (by omega))
  have x1 := x1.keep (w' := w2) fun k hk => b2.block k (by omega)
  have bW : Below w2.heap.size w2 ((w2.alloc (.cells #[.iface 114 (.pointer (some ⟨w.heap.size + 2 + 1, 0, none⟩)), .iface 117 (.pointer (some ⟨w.heap.size + 2 + 1 + 1, 0, none⟩)), .iface 103 (.pointer (some ⟨w.heap.size + 2 + 1 + 2, 0, none⟩))] 78)).alloc (.cells #[.iface 114 (.pointer (some ⟨w.heap.size + 2 + 4 + 1, 0, none⟩)), .iface 117 (.pointer (some ⟨w.heap.size + 2 + 4 + 1 + 1, 0, none⟩)), .iface 103 (.pointer (some ⟨w.heap.size + 2 + 4 + 1 + 2, 0, none⟩))] 78)) := ((Below.refl _ _).alloc (Nat.le_refl _) _).alloc (by simp) _
  have gX := heap_alloc_new w2 (.cells #[.iface 114 (.pointer (some ⟨w.heap.size + 2 + 1, 0, none⟩)), .iface 117 (.pointer (some ⟨w.heap.size + 2 + 1 + 1, 0, none⟩)), .iface 103 (.pointer (some ⟨w.heap.size + 2 + 1 + 2, 0, none⟩))] 78)
  have gY := heap_alloc_new (w2.alloc (.cells #[.iface 114 (.pointer (some ⟨w.heap.size + 2 + 1, 0, none⟩)), .iface 117 (.pointer (some ⟨w.heap.size + 2 + 1 + 1, 0, none⟩)), .iface 103 (.pointer (some ⟨w.heap.size + 2 + 1 + 2, 0, none⟩))] 78)) (.cells #[.iface 114 (.pointer (some ⟨w.heap.size + 2 + 4 + 1, 0, none⟩)), .iface 117 (.pointer (some ⟨w.heap.size + 2 + 4 + 1 + 1, 0, none⟩)), .iface 103 (.pointer (some ⟨w.heap.size + 2 + 4 + 1 + 2, 0, none⟩))] 78)
  have gX := (((Below.refl (w2.heap.size + 1) _).alloc (by simp) (.cells #[.iface 114 (.pointer (some ⟨w.heap.size + 2 + 4 + 1, 0, none⟩)), .iface 117 (.pointer (some ⟨w.heap.size + 2 + 4 + 1 + 1, 0, none⟩)), .iface 103 (.pointer (some ⟨w.heap.size + 2 + 4 + 1 + 2, 0, none⟩))] 78)).block w2.heap.size (by omega)).trans gX
  have zW : ((w2.alloc (.cells #[.iface 114 (.pointer (some ⟨w.heap.size + 2 + 1, 0, none⟩)), .iface 117 (.pointer (some ⟨w.heap.size + 2 + 1 + 1, 0, none⟩)), .iface 103 (.pointer (some ⟨w.heap.size + 2 + 1 + 2, 0, none⟩))] 78)).alloc (.cells #[.iface 114 (.pointer (some ⟨w.heap.size + 2 + 4 + 1, 0, none⟩)), .iface 117 (.pointer (some ⟨w.heap.size + 2 + 4 + 1 + 1, 0, none⟩)), .iface 103 (.pointer (some ⟨w.heap.size + 2 + 4 + 1 + 2, 0, none⟩))] 78)).heap.size = w2.heap.size + 2 := by simp
  rw [show (w2.alloc (.cells #[.iface 114 (.pointer (some ⟨w.heap.size + 2 + 1, 0, none⟩)), .iface 117 (.pointer (some ⟨w.heap.size + 2 + 1 + 1, 0, none⟩)), .iface 103 (.pointer (some ⟨w.heap.size + 2 + 1 + 2, 0, none⟩))] 78)).heap.size = w2.heap.size + 1 from by simp] at gY
  rw [z2] at gX gY
  have GR := Lib.hid ((bW.block w.heap.size (by omega)).trans gR)
  have GT := Lib.hid ((bW.block (w.heap.size + 1) (by omega)).trans gT)
  have GX := Lib.hid gX
  have GY := Lib.hid gY
  have T0 : Two w ((w2.alloc (.cells #[.iface 114 (.pointer (some ⟨w.heap.size + 2 + 1, 0, none⟩)), .iface 117 (.pointer (some ⟨w.heap.size + 2 + 1 + 1, 0, none⟩)), .iface 103 (.pointer (some ⟨w.heap.size + 2 + 1 + 2, 0, none⟩))] 78)).alloc (.cells #[.iface 114 (.pointer (some ⟨w.heap.size + 2 + 4 + 1, 0, none⟩)), .iface 117 (.pointer (some ⟨w.heap.size + 2 + 4 + 1 + 1, 0, none⟩)), .iface 103 (.pointer (some ⟨w.heap.size + 2 + 4 + 1 + 2, 0, none⟩))] 78)) s1 s2 [] [] ((w2.alloc (.cells #[.iface 114 (.pointer (some ⟨w.heap.size + 2 + 1, 0, none⟩)), .iface 117 (.pointer (some ⟨w.heap.size + 2 + 1 + 1, 0, none⟩)), .iface 103 (.pointer (some ⟨w.heap.size + 2 + 1 + 2, 0, none⟩))] 78)).alloc (.cells #[.iface 114 (.pointer (some ⟨w.heap.size + 2 + 4 + 1, 0, none⟩)), .iface 117 (.pointer (some ⟨w.heap.size + 2 + 4 + 1 + 1, 0, none⟩)), .iface 103 (.pointer (some ⟨w.heap.size + 2 + 4 + 1 + 2, 0, none⟩))] 78)) := ⟨x1.below bW, x2.below bW, rfl, rfl, rfl, rfl, b02.trans (bW.mono (by omega)), by omega⟩
  have HT0 := Lib.hid T0
  clear T0 gX gY gR gT x1 x2 b01 b02 b1 b2 bR zR bW zW
  rcases Nat.lt_or_ge n m with hnm | hnm
  · go_wp2_with fail
    generalize ((w2.alloc (.cells #[.iface 114 (.pointer (some ⟨w.heap.size + 2 + 1, 0, none⟩)), .iface 117 (.pointer (some ⟨w.heap.size + 2 + 1 + 1, 0, none⟩)), .iface 103 (.pointer (some ⟨w.heap.size + 2 + 1 + 2, 0, none⟩))] 78)).alloc (.cells #[.iface 114 (.pointer (some ⟨w.heap.size + 2 + 4 + 1, 0, none⟩)), .iface 117 (.pointer (some ⟨w.heap.size + 2 + 4 + 1 + 1, 0, none⟩)), .iface 103 (.pointer (some ⟨w.heap.size + 2 + 4 + 1 + 2, 0, none⟩))] 78)) = W at GR GT GX GY HT0 ⊢
    go_loopw [22] (fun i wr => ∃ k : Nat, k ≤ m ∧ i = .int .i64 k ∧ Two w W s1 s2 (pre L k) (pre M k) wr) (fun i _ => m - (intOf i).toNat)
    case atStart => exact ⟨0, Nat.zero_le _, rfl, HT0.out⟩
    case round =>
      obtain ⟨k, hk, rfl, hT⟩ := hrel
      have cells : ∀ w' : World, w'.heap[w.heap.size + 2 + 4 + 4]? = W.heap[w.heap.size + 2 + 4 + 4]? → w'.heap[w.heap.size + 2 + 4 + 4 + 1]? = W.heap[w.heap.size + 2 + 4 + 4 + 1]? →
          (w'.cell? ⟨w.heap.size + 2 + 4 + 4, 0, none⟩ = some (.iface 114 (.pointer (some ⟨w.heap.size + 2 + 1, 0, none⟩))) ∧ w'.cell? ⟨w.heap.size + 2 + 4 + 4, 1, none⟩ = some (.iface 117 (.pointer (some ⟨w.heap.size + 2 + 1 + 1, 0, none⟩))) ∧ w'.cell? ⟨w.heap.size + 2 + 4 + 4, 2, none⟩ = some (.iface 103 (.pointer (some ⟨w.heap.size + 2 + 1 + 2, 0, none⟩)))) ∧
          w'.cell? ⟨w.heap.size + 2 + 4 + 4 + 1, 0, none⟩ = some (.iface 114 (.pointer (some ⟨w.heap.size + 2 + 4 + 1, 0, none⟩))) ∧ w'.cell? ⟨w.heap.size + 2 + 4 + 4 + 1, 1, none⟩ = some (.iface 117 (.pointer (some ⟨w.heap.size + 2 + 4 + 1 + 1, 0, none⟩))) ∧ w'.cell? ⟨w.heap.size + 2 + 4 + 4 + 1, 2, none⟩ = some (.iface 103 (.pointer (some ⟨w.heap.size + 2 + 4 + 1 + 2, 0, none⟩))) := fun w' h h' =>
        ⟨⟨cell_of_row w' _ 0 _ 78 (0, 0) (h.trans GX.out), cell_of_row w' _ 1 _ 78 (0, 0) (h.trans GX.out), cell_of_row w' _ 2 _ 78 (0, 0) (h.trans GX.out)⟩,
          cell_of_row w' _ 0 _ 78 (0, 0) (h'.trans GY.out), cell_of_row w' _ 1 _ 78 (0, 0) (h'.trans GY.out), cell_of_row w' _ 2 _ 78 (0, 0) (h'.trans GY.out)⟩
      have Hcells := Lib.hid cells
      have HT := Lib.hid hT
      clear cells hT
      obtain ⟨⟨k0, k1, k2⟩, -⟩ := Hcells.out wr HT.out.box1 HT.out.box2
      by_cases hlt : k < m
      · by_cases hln : k < n
        · have hkL : k < L.length := by rw [SL.out.hn]; exact hln
          obtain ⟨b, off, rfl, hcw⟩ := HL.out.get HT.out.bel k hkL
          have hwrite := fun (w' : World) (hb' : Below w.heap.size w w') (hs' : Sums (w.heap.size + 2 + 1) s1 (pre L k) w') => write_next (w.heap.size + 2 + 1) s1 HL.out SL.out k hkL w' hb' (by omega) hs'
          have Hwrite := Lib.hid hwrite
          clear hwrite
          generalize L[k] = sl at Hwrite hcw
          obtain ⟨sa, slen, scap, sll⟩ := sl
          go_wp2_with fail
          refine wp_region_quiet_tail (fun w' => ∃ n, w' = wr.drewN n) 5 (by kernel_rfl) (by kernel_rfl) ⟨1, rfl⟩ ?_
          simp only [List.take_succ_cons, List.take_zero, List.drop_succ_cons, List.drop_zero]
          repeat (go_big_quiet_step (fail))
          refine wpQuiet_nil ?_
          rintro _ ⟨nq, rfl⟩
          go_wp2_with fail
          refine (Hwrite.out (wr.drewN nq) (below_drewN HT.out.bel nq) (HT.out.one.drewN nq)).mono ?_
          rintro e w4 ⟨rfl, t4, y4⟩
          have HT4 := Lib.hid (HT.out.turn1 nq t4 y4)
          clear k0 k1 k2 hcw HT t4 y4 Hwrite
          obtain ⟨-, k0, k1, k2⟩ := Hcells.out w4 HT4.out.box1 HT4.out.box2
          by_cases hlm : k < m
          · have hkM : k < M.length := by rw [SM.out.hn]; exact hlm
            obtain ⟨b', off', rfl, hcw⟩ := HM.out.get HT4.out.bel k hkM
            have hwrite := fun (w' : World) (hb' : Below w.heap.size w w') (hs' : Sums (w.heap.size + 2 + 4 + 1) s2 (pre M k) w') => write_next (w.heap.size + 2 + 4 + 1) s2 HM.out SM.out k hkM w' hb' (by omega) hs'
            have Hwrite := Lib.hid hwrite
            clear hwrite
            generalize M[k] = sl at Hwrite hcw
            obtain ⟨ta, tlen, tcap, tll⟩ := sl
            go_wp2_with fail
            refine wp_region_quiet_tail (fun w' => ∃ n, w' = World.drewN w4 n) 5 (by kernel_rfl) (by kernel_rfl) ⟨1, rfl⟩ ?_
            simp only [List.take_succ_cons, List.take_zero, List.drop_succ_cons, List.drop_zero]
            repeat (go_big_quiet_step (fail))
            refine wpQuiet_nil ?_
            rintro _ ⟨nr, rfl⟩
            go_wp2_with fail
            refine (Hwrite.out (World.drewN w4 nr) (below_drewN HT4.out.bel nr) (HT4.out.two.drewN nr)).mono ?_
            rintro e w6 ⟨rfl, t6, y6⟩
            have HT6 := Lib.hid (HT4.out.turn2 nr t6 y6)
            clear k0 k1 k2 hcw HT4 t6 y6 Hwrite
            go_wp2_with fail
            exact ⟨⟨k + 1, by omega, by go_num, HT6.out⟩, by simp [intOf]; omega⟩
          · exact absurd hlt hlm
        · have HT4 := Lib.hid (show Two w W s1 s2 (pre L (k + 1)) (pre M k) wr by rw [pre_past L k (by rw [SL.out.hn]; omega)]; exact HT.out)
          clear k0 k1 k2 HT
          obtain ⟨-, k0, k1, k2⟩ := Hcells.out wr HT4.out.box1 HT4.out.box2
          by_cases hlm : k < m
          · have hkM : k < M.length := by rw [SM.out.hn]; exact hlm
            obtain ⟨b', off', rfl, hcw⟩ := HM.out.get HT4.out.bel k hkM
            have hwrite := fun (w' : World) (hb' : Below w.heap.size w w') (hs' : Sums (w.heap.size + 2 + 4 + 1) s2 (pre M k) w') => write_next (w.heap.size + 2 + 4 + 1) s2 HM.out SM.out k hkM w' hb' (by omega) hs'
            have Hwrite := Lib.hid hwrite
            clear hwrite
            generalize M[k] = sl at Hwrite hcw
            obtain ⟨ta, tlen, tcap, tll⟩ := sl
            go_wp2_with fail
            refine wp_region_quiet_tail (fun w' => ∃ n, w' = World.drewN wr n) 5 (by kernel_rfl) (by kernel_rfl) ⟨1, rfl⟩ ?_
            simp only [List.take_succ_cons, List.take_zero, List.drop_succ_cons, List.drop_zero]
            repeat (go_big_quiet_step (fail))
            refine wpQuiet_nil ?_
            rintro _ ⟨nr, rfl⟩
            go_wp2_with fail
            refine (Hwrite.out (World.drewN wr nr) (below_drewN HT4.out.bel nr) (HT4.out.two.drewN nr)).mono ?_
            rintro e w6 ⟨rfl, t6, y6⟩
            have HT6 := Lib.hid (HT4.out.turn2 nr t6 y6)
            clear k0 k1 k2 hcw HT4 t6 y6 Hwrite
            go_wp2_with fail
            exact ⟨⟨k + 1, by omega, by go_num, HT6.out⟩, by simp [intOf]; omega⟩
          · exact absurd hlt hlm
      · have hkN : k = m := by omega
        have hS := HT.out
        rw [hkN] at hS
        rw [pre_top L n _ SL.out.hn (by omega), pre_top M m _ SM.out.hn (by omega)] at hS
        have HS := Lib.hid hS
        clear hS HT k0 k1 k2
        have K : ∀ x : Ext wr, _ := fun x => Hcells.out x.at ((x.below.block _ (by have := HS.out.size; omega)).trans HS.out.box1) ((x.below.block _ HS.out.size).trans HS.out.box2)
        have k0 := fun x => (K x).1.1
        have k1 := fun x => (K x).1.2.1
        have k2 := fun x => (K x).1.2.2
        have k3 := fun x => (K x).2.1
        have k4 := fun x => (K x).2.2.1
        have k5 := fun x => (K x).2.2.2
        clear K
        go_wp2_with fail
        refine wp_region_quiet_tail (fun w' => ∃ x : Ext wr, w' = x.at) 4 (by kernel_rfl) (by kernel_rfl) ⟨⟨wr.drewN 1, below_drewN (Below.refl _ _) 1⟩, rfl⟩ ?_
        simp only [List.take_succ_cons, List.take_zero, List.drop_succ_cons, List.drop_zero]
        iterate 2 (go_big_quiet_step ((go_at_call 59; exact Calls.ext_of_below (tolds_any (w.heap.size + 2 + 1) s1 _ _ (HS.out.one.below (Ext.below _))))))
        iterate 2 (go_big_quiet_step ((go_at_call 59; exact Calls.ext_of_below (tolds_any (w.heap.size + 2 + 4 + 1) s2 _ _ (HS.out.two.below (Ext.below _))))))
        refine wpQuiet_nil ?_
        rintro _ ⟨x, rfl⟩
        have hres1 := (x.below.block _ (by have := HS.out.size; omega)).trans (HS.out.res1.trans GR.out)
        have hres2 := (x.below.block _ (by have := HS.out.size; omega)).trans (HS.out.res2.trans GT.out)
        have hbel := HS.out.bel.trans (x.below.mono HS.out.bel.size)
        generalize x.at = w8 at hres1 hres2 hbel ⊢
        clear k0 k1 k2 k3 k4 k5
        have c0 : w8.cell? ⟨w.heap.size, 0, none⟩ = some (.int .u32 0) := cell_of_row w8 _ 0 _ 38 (0, 0) hres1
        have c1 : w8.cell? ⟨w.heap.size, 1, none⟩ = some (.int .u64 0) := cell_of_row w8 _ 1 _ 38 (0, 0) hres1
        have c2 : w8.cell? ⟨w.heap.size, 2, none⟩ = some (.int .u64 0) := cell_of_row w8 _ 2 _ 38 (0, 0) hres1
        have c3 : w8.cell? ⟨w.heap.size, 3, none⟩ = some (.int .u64 0) := cell_of_row w8 _ 3 _ 38 (0, 0) hres1
        have f0 := frozen_row w8 _ 0 _ 38 hres1
        have f1 := frozen_row w8 _ 1 _ 38 hres1
        have f2 := frozen_row w8 _ 2 _ 38 hres1
        have f3 := frozen_row w8 _ 3 _ 38 hres1
        have d0 : w8.cell? ⟨w.heap.size + 1, 0, none⟩ = some (.int .u32 0) := cell_of_row w8 _ 0 _ 38 (0, 0) hres2
        have d1 : w8.cell? ⟨w.heap.size + 1, 1, none⟩ = some (.int .u64 0) := cell_of_row w8 _ 1 _ 38 (0, 0) hres2
        have d2 : w8.cell? ⟨w.heap.size + 1, 2, none⟩ = some (.int .u64 0) := cell_of_row w8 _ 2 _ 38 (0, 0) hres2
        have d3 : w8.cell? ⟨w.heap.size + 1, 3, none⟩ = some (.int .u64 0) := cell_of_row w8 _ 3 _ 38 (0, 0) hres2
        have e0 := frozen_row w8 _ 0 _ 38 hres2
        have e1 := frozen_row w8 _ 1 _ 38 hres2
        have e2 := frozen_row w8 _ 2 _ 38 hres2
        have e3 := frozen_row w8 _ 3 _ 38 hres2
        clear hres1 hres2
        unfold sums4
        go_wp2_with fail
        refine bodyPost_ret (v := .tuple #[tv (pre L n) s1, tv (pre M m) s2]) (by simp [results, Try.results38, go_sem, c0, c1, c2, c3, d0, d1, d2, d3, tv, sums4]) rfl ⟨rfl, ?_⟩
        exact (((((((hbel.setCell (Nat.le_refl _) _).setCell (Nat.le_refl _) _).setCell (Nat.le_refl _) _).setCell (Nat.le_refl _) _).setCell (Nat.le_succ _) _).setCell (Nat.le_succ _) _).setCell (Nat.le_succ _) _).setCell (Nat.le_succ _) _
  · go_wp2_with fail
    generalize ((w2.alloc (.cells #[.iface 114 (.pointer (some ⟨w.heap.size + 2 + 1, 0, none⟩)), .iface 117 (.pointer (some ⟨w.heap.size + 2 + 1 + 1, 0, none⟩)), .iface 103 (.pointer (some ⟨w.heap.size + 2 + 1 + 2, 0, none⟩))] 78)).alloc (.cells #[.iface 114 (.pointer (some ⟨w.heap.size + 2 + 4 + 1, 0, none⟩)), .iface 117 (.pointer (some ⟨w.heap.size + 2 + 4 + 1 + 1, 0, none⟩)), .iface 103 (.pointer (some ⟨w.heap.size + 2 + 4 + 1 + 2, 0, none⟩))] 78)) = W at GR GT GX GY HT0 ⊢
    go_loopw [22] (fun i wr => ∃ k : Nat, k ≤ n ∧ i = .int .i64 k ∧ Two w W s1 s2 (pre L k) (pre M k) wr) (fun i _ => n - (intOf i).toNat)
    case atStart => exact ⟨0, Nat.zero_le _, rfl, HT0.out⟩
    case round =>
      obtain ⟨k, hk, rfl, hT⟩ := hrel
      have cells : ∀ w' : World, w'.heap[w.heap.size + 2 + 4 + 4]? = W.heap[w.heap.size + 2 + 4 + 4]? → w'.heap[w.heap.size + 2 + 4 + 4 + 1]? = W.heap[w.heap.size + 2 + 4 + 4 + 1]? →
          (w'.cell? ⟨w.heap.size + 2 + 4 + 4, 0, none⟩ = some (.iface 114 (.pointer (some ⟨w.heap.size + 2 + 1, 0, none⟩))) ∧ w'.cell? ⟨w.heap.size + 2 + 4 + 4, 1, none⟩ = some (.iface 117 (.pointer (some ⟨w.heap.size + 2 + 1 + 1, 0, none⟩))) ∧ w'.cell? ⟨w.heap.size + 2 + 4 + 4, 2, none⟩ = some (.iface 103 (.pointer (some ⟨w.heap.size + 2 + 1 + 2, 0, none⟩)))) ∧
          w'.cell? ⟨w.heap.size + 2 + 4 + 4 + 1, 0, none⟩ = some (.iface 114 (.pointer (some ⟨w.heap.size + 2 + 4 + 1, 0, none⟩))) ∧ w'.cell? ⟨w.heap.size + 2 + 4 + 4 + 1, 1, none⟩ = some (.iface 117 (.pointer (some ⟨w.heap.size + 2 + 4 + 1 + 1, 0, none⟩))) ∧ w'.cell? ⟨w.heap.size + 2 + 4 + 4 + 1, 2, none⟩ = some (.iface 103 (.pointer (some ⟨w.heap.size + 2 + 4 + 1 + 2, 0, none⟩))) := fun w' h h' =>
        ⟨⟨cell_of_row w' _ 0 _ 78 (0, 0) (h.trans GX.out), cell_of_row w' _ 1 _ 78 (0, 0) (h.trans GX.out), cell_of_row w' _ 2 _ 78 (0, 0) (h.trans GX.out)⟩,
          cell_of_row w' _ 0 _ 78 (0, 0) (h'.trans GY.out), cell_of_row w' _ 1 _ 78 (0, 0) (h'.trans GY.out), cell_of_row w' _ 2 _ 78 (0, 0) (h'.trans GY.out)⟩
      have Hcells := Lib.hid cells
      have HT := Lib.hid hT
      clear cells hT
      obtain ⟨⟨k0, k1, k2⟩, -⟩ := Hcells.out wr HT.out.box1 HT.out.box2
      by_cases hlt : k < n
      · by_cases hln : k < n
        · have hkL : k < L.length := by rw [SL.out.hn]; exact hln
          obtain ⟨b, off, rfl, hcw⟩ := HL.out.get HT.out.bel k hkL
          have hwrite := fun (w' : World) (hb' : Below w.heap.size w w') (hs' : Sums (w.heap.size + 2 + 1) s1 (pre L k) w') => write_next (w.heap.size + 2 + 1) s1 HL.out SL.out k hkL w' hb' (by omega) hs'
          have Hwrite := Lib.hid hwrite
          clear hwrite
          generalize L[k] = sl at Hwrite hcw
          obtain ⟨sa, slen, scap, sll⟩ := sl
          go_wp2_with fail
          refine wp_region_quiet_tail (fun w' => ∃ n, w' = wr.drewN n) 5 (by kernel_rfl) (by kernel_rfl) ⟨1, rfl⟩ ?_
          simp only [List.take_succ_cons, List.take_zero, List.drop_succ_cons, List.drop_zero]
          repeat (go_big_quiet_step (fail))
          refine wpQuiet_nil ?_
          rintro _ ⟨nq, rfl⟩
          go_wp2_with fail
          refine (Hwrite.out (wr.drewN nq) (below_drewN HT.out.bel nq) (HT.out.one.drewN nq)).mono ?_
          rintro e w4 ⟨rfl, t4, y4⟩
          have HT4 := Lib.hid (HT.out.turn1 nq t4 y4)
          clear k0 k1 k2 hcw HT t4 y4 Hwrite
          obtain ⟨-, k0, k1, k2⟩ := Hcells.out w4 HT4.out.box1 HT4.out.box2
          by_cases hlm : k < m
          · have hkM : k < M.length := by rw [SM.out.hn]; exact hlm
            obtain ⟨b', off', rfl, hcw⟩ := HM.out.get HT4.out.bel k hkM
            have hwrite := fun (w' : World) (hb' : Below w.heap.size w w') (hs' : Sums (w.heap.size + 2 + 4 + 1) s2 (pre M k) w') => write_next (w.heap.size + 2 + 4 + 1) s2 HM.out SM.out k hkM w' hb' (by omega) hs'
            have Hwrite := Lib.hid hwrite
            clear hwrite
            generalize M[k] = sl at Hwrite hcw
            obtain ⟨ta, tlen, tcap, tll⟩ := sl
            go_wp2_with fail
            refine wp_region_quiet_tail (fun w' => ∃ n, w' = World.drewN w4 n) 5 (by kernel_rfl) (by kernel_rfl) ⟨1, rfl⟩ ?_
            simp only [List.take_succ_cons, List.take_zero, List.drop_succ_cons, List.drop_zero]
            repeat (go_big_quiet_step (fail))
            refine wpQuiet_nil ?_
            rintro _ ⟨nr, rfl⟩
            go_wp2_with fail
            refine (Hwrite.out (World.drewN w4 nr) (below_drewN HT4.out.bel nr) (HT4.out.two.drewN nr)).mono ?_
            rintro e w6 ⟨rfl, t6, y6⟩
            have HT6 := Lib.hid (HT4.out.turn2 nr t6 y6)
            clear k0 k1 k2 hcw HT4 t6 y6 Hwrite
            go_wp2_with fail
            exact ⟨⟨k + 1, by omega, by go_num, HT6.out⟩, by simp [intOf]; omega⟩
          · have HT6 := Lib.hid (show Two w W s1 s2 (pre L (k + 1)) (pre M (k + 1)) w4 by rw [pre_past M k (by rw [SM.out.hn]; omega)]; exact HT4.out)
            clear k0 k1 k2 HT4
            go_wp2_with fail
            exact ⟨⟨k + 1, by omega, by go_num, HT6.out⟩, by simp [intOf]; omega⟩
        · exact absurd hlt hln
      · have hkN : k = n := by omega
        have hS := HT.out
        rw [hkN] at hS
        rw [pre_top L n _ SL.out.hn (by omega), pre_top M m _ SM.out.hn (by omega)] at hS
        have HS := Lib.hid hS
        clear hS HT k0 k1 k2
        have K : ∀ x : Ext wr, _ := fun x => Hcells.out x.at ((x.below.block _ (by have := HS.out.size; omega)).trans HS.out.box1) ((x.below.block _ HS.out.size).trans HS.out.box2)
        have k0 := fun x => (K x).1.1
        have k1 := fun x => (K x).1.2.1
        have k2 := fun x => (K x).1.2.2
        have k3 := fun x => (K x).2.1
        have k4 := fun x => (K x).2.2.1
        have k5 := fun x => (K x).2.2.2
        clear K
        go_wp2_with fail
        refine wp_region_quiet_tail (fun w' => ∃ x : Ext wr, w' = x.at) 4 (by kernel_rfl) (by kernel_rfl) ⟨⟨wr.drewN 1, below_drewN (Below.refl _ _) 1⟩, rfl⟩ ?_
        simp only [List.take_succ_cons, List.take_zero, List.drop_succ_cons, List.drop_zero]
        iterate 2 (go_big_quiet_step ((go_at_call 59; exact Calls.ext_of_below (tolds_any (w.heap.size + 2 + 1) s1 _ _ (HS.out.one.below (Ext.below _))))))
        iterate 2 (go_big_quiet_step ((go_at_call 59; exact Calls.ext_of_below (tolds_any (w.heap.size + 2 + 4 + 1) s2 _ _ (HS.out.two.below (Ext.below _))))))
        refine wpQuiet_nil ?_
        rintro _ ⟨x, rfl⟩
        have hres1 := (x.below.block _ (by have := HS.out.size; omega)).trans (HS.out.res1.trans GR.out)
        have hres2 := (x.below.block _ (by have := HS.out.size; omega)).trans (HS.out.res2.trans GT.out)
        have hbel := HS.out.bel.trans (x.below.mono HS.out.bel.size)
        generalize x.at = w8 at hres1 hres2 hbel ⊢
        clear k0 k1 k2 k3 k4 k5
        have c0 : w8.cell? ⟨w.heap.size, 0, none⟩ = some (.int .u32 0) := cell_of_row w8 _ 0 _ 38 (0, 0) hres1
        have c1 : w8.cell? ⟨w.heap.size, 1, none⟩ = some (.int .u64 0) := cell_of_row w8 _ 1 _ 38 (0, 0) hres1
        have c2 : w8.cell? ⟨w.heap.size, 2, none⟩ = some (.int .u64 0) := cell_of_row w8 _ 2 _ 38 (0, 0) hres1
        have c3 : w8.cell? ⟨w.heap.size, 3, none⟩ = some (.int .u64 0) := cell_of_row w8 _ 3 _ 38 (0, 0) hres1
        have f0 := frozen_row w8 _ 0 _ 38 hres1
        have f1 := frozen_row w8 _ 1 _ 38 hres1
        have f2 := frozen_row w8 _ 2 _ 38 hres1
        have f3 := frozen_row w8 _ 3 _ 38 hres1
        have d0 : w8.cell? ⟨w.heap.size + 1, 0, none⟩ = some (.int .u32 0) := cell_of_row w8 _ 0 _ 38 (0, 0) hres2
        have d1 : w8.cell? ⟨w.heap.size + 1, 1, none⟩ = some (.int .u64 0) := cell_of_row w8 _ 1 _ 38 (0, 0) hres2
        have d2 : w8.cell? ⟨w.heap.size + 1, 2, none⟩ = some (.int .u64 0) := cell_of_row w8 _ 2 _ 38 (0, 0) hres2
        have d3 : w8.cell? ⟨w.heap.size + 1, 3, none⟩ = some (.int .u64 0) := cell_of_row w8 _ 3 _ 38 (0, 0) hres2
        have e0 := frozen_row w8 _ 0 _ 38 hres2
        have e1 := frozen_row w8 _ 1 _ 38 hres2
        have e2 := frozen_row w8 _ 2 _ 38 hres2
        have e3 := frozen_row w8 _ 3 _ 38 hres2
        clear hres1 hres2
        unfold sums4
        go_wp2_with fail
        refine bodyPost_ret (v := .tuple #[tv (pre L n) s1, tv (pre M m) s2]) (by simp [results, Try.results38, go_sem, c0, c1, c2, c3, d0, d1, d2, d3, tv, sums4]) rfl ⟨rfl, ?_⟩
        exact (((((((hbel.setCell (Nat.le_refl _) _).setCell (Nat.le_refl _) _).setCell (Nat.le_refl _) _).setCell (Nat.le_refl _) _).setCell (Nat.le_succ _) _).setCell (Nat.le_succ _) _).setCell (Nat.le_succ _) _).setCell (Nat.le_succ _) _
end Go.Proofs.Ytfnejnoldonfeaa
