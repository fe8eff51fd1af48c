/-
  The law FnSplit as a walk: it returns true.
  Conditions: the bytes lie in memory.
-/
import Derived.Test.YtfnejnoldonfeaaPc
import Derived.Test.YtfnejnoldonfeaaEqw
import Derived.Deep.RegionHeldLaw
namespace Go.Proofs.Ytfnejnoldonfeaa
open Go.RowKit BigFrame
def three (a : Option Addr) (len cap : Nat) (l : List UInt8) (i d : Nat) : List Sl := [⟨a, i, cap, l.take i⟩, ⟨cutA a cap i, d, cap - i, (l.drop i).take d⟩, ⟨cutA a cap (i + d), len - (i + d), cap - (i + d), l.drop (i + d)⟩]
theorem pre_three (a : Option Addr) (len cap : Nat) (l : List UInt8) (i d : Nat) : pre (three a len cap l i d) 3 = l := by
  unfold pre three
  simp only [List.take_succ_cons, List.take_zero, List.map_cons, List.map_nil, List.flatten_cons, List.flatten_nil, List.append_nil]
  rw [← List.drop_drop, List.take_append_drop, List.take_append_drop]
theorem pre_one (a : Option Addr) (len cap : Nat) (l : List UInt8) : pre [⟨a, len, cap, l⟩] 1 = l := by simp [pre]
theorem three_ok {w : World} {a : Option Addr} {len cap : Nat} {l : List UInt8} (hb : Bs w a l) (hl : l.length = len) (hc : len ≤ cap) (hm : cap ≤ 9223372036854775807) (i d : Nat) (hj : i + d ≤ len) : ∀ s ∈ three a len cap l i d, s.Ok w := by
  intro s hs
  simp only [three, List.mem_cons, List.not_mem_nil, or_false] at hs
  rcases hs with rfl | rfl | rfl
  · exact ⟨hb.take i, by simp; omega, by show i ≤ cap; omega, hm⟩
  · exact ⟨(hb.drop cap i (by omega)).take _, by simp; omega, by show d ≤ cap - i; omega, by show cap - i ≤ _; omega⟩
  · exact ⟨hb.drop cap (i + d) (by omega), by simp; omega, by show len - (i + d) ≤ cap - (i + d); omega, by show cap - (i + d) ≤ _; omega⟩
theorem tcs_at3 (L : List Sl) (seed : BitVec 32) (j : Nat) : (tcs L seed (3 + 1))[12 + j]? = (tc4 (pre L 3) seed)[j]? := by
  rw [tcs_succ, List.getElem?_append_right (by simp [tcs, List.range_succ, tc4])]
  simp [tcs, List.range_succ, tc4]
theorem tcs_at1 (L : List Sl) (seed : BitVec 32) (j : Nat) : (tcs L seed (1 + 1))[4 + j]? = (tc4 (pre L 1) seed)[j]? := by
  rw [tcs_succ, List.getElem?_append_right (by simp [tcs, List.range_succ, tc4])]
  simp [tcs, List.range_succ, tc4]
section
variable (w : World) (x y : Operand) (a a' : BitVec 32) (b b' c c' d d' : BitVec 64)
theorem eq_agg : (binOp .eql 38 (.agg #[.int .u32 (un a), .int .u64 (un b), .int .u64 (un c), .int .u64 (un d)]) (.agg #[.int .u32 (un a'), .int .u64 (un b'), .int .u64 (un c'), .int .u64 (un d')])).run Try.prog w = .ok (.bool (a == a' && (b == b' && (c == c' && d == d')))) w := eq_sums w a a' b b' c c' d d'
theorem guard_agg (op : BinOp) : (eqGuard op 38 x y (.agg #[.int .u32 (un a), .int .u64 (un b), .int .u64 (un c), .int .u64 (un d)]) (.agg #[.int .u32 (un a'), .int .u64 (un b'), .int .u64 (un c'), .int .u64 (un d')])).run Try.prog w = .ok () w := guard_sums w x y a a' b b' c c' d d' op
end
theorem wpQuiet_eql38 {ops : Array Oper} {C : World → Prop} {Q : Act → Prop} {rest : List Oper} {o : Oper} {ac : Act} (hw : Region.wanted o (yielded ops ac.tmps) = true) (x y : Operand) (rt : TypeId) (ho : o.op = .binOp .eql 38 x y rt)
    (a a' : BitVec 32) (b b' c c' d d' : BitVec 64) (hx : ac.eval x = sums4 a b c d) (hy : ac.eval y = sums4 a' b' c' d') (u : Value) (hu : .bool (a == a' && (b == b' && (c == c' && d == d'))) = u)
    (hk : wpQuiet Try.prog ops C Q rest (ac.put o.dst u)) : wpQuiet Try.prog ops C Q (o :: rest) ac := by
  refine wpQuiet_step fun K hK => ?_
  rw [if_pos hw]
  refine ⟨u, fun w _ => ?_, hK _ hk⟩
  subst hu
  unfold Oper.quietAt execOp
  simp only [ho, Sem.run_bind, hx, hy, guard_sums, eq_sums, Result.andThen_ok, Sem.run_pure]
  exact ⟨rfl, rfl⟩
theorem Ls_new (w : World) (L : List Sl) (cs : Array Value) (n : Nat) (hn : w.heap.size = n) (hc : cs = (L.map Sl.v).toArray) (hok : ∀ s ∈ L, s.Ok w) : Ls (w.alloc (.cells cs 22)) (some ⟨n, 0, none⟩) L := by
  subst hn hc
  refine ⟨.inr ⟨_, _, rfl, fun i h => ?_⟩, fun s hs => (hok s hs).mem ((Below.refl _ _).alloc (Nat.le_refl _) _)⟩
  rw [cell_of_row _ w.heap.size (0 + i) _ 22 (0, 0) (heap_alloc_new w _), Nat.zero_add, List.getElem?_toArray, List.getElem?_map, List.getElem?_eq_getElem h]
  rfl
set_option maxRecDepth 100000 in
set_option maxHeartbeats 1600000 in
theorem fnSplit_any (seed : BitVec 32) (a : Option Addr) (len cap : Nat) (l : List UInt8) (n m : Int) (w : World) (hb : Bs w a l) (hl : l.length = len) (hc : len ≤ cap) (hm : cap ≤ 9223372036854775807)
    (_lo : -9223372036854775808 ≤ n) (_hi : n ≤ 9223372036854775807) (_lo2 : -9223372036854775808 ≤ m) (_hi2 : m ≤ 9223372036854775807) :
   Calls Try.prog 12 #[.int .u32 (un seed), .slice a len cap, .int .i64 n, .int .i64 m] w fun e w' => e = .returned (.bool true) ∧ Below w.heap.size w w' := by
  have Hl := Lib.hid hl
  have Hb := Lib.hid hb
  clear hl hb
  by_cases hbig : 2147483647 < len
  · go_enter Try.func12, Try.ntmps12
    go_wp2_with fail
    go_ret
    exact ⟨rfl, Below.refl _ _⟩
  · obtain ⟨i, hi⟩ : ∃ i : Nat, n % ((len : Int) + 1) = (i : Int) := ⟨(n % ((len : Int) + 1)).toNat, by have := Int.emod_nonneg n (show (len : Int) + 1 ≠ 0 by omega); omega⟩
    have hil : i ≤ len := by have := Int.emod_lt_of_pos n (show 0 < (len : Int) + 1 by omega); omega
    obtain ⟨d, hd⟩ : ∃ d : Nat, m % ((len : Int) - i + 1) = (d : Int) := ⟨(m % ((len : Int) - i + 1)).toNat, by have := Int.emod_nonneg m (show (len : Int) - i + 1 ≠ 0 by omega); omega⟩
    have hdl : i + d ≤ len := by have := Int.emod_lt_of_pos m (show 0 < (len : Int) - i + 1 by omega); omega
    have Hi := Lib.hid hi
    have Hd := Lib.hid hd
    clear hi hd
    go_enter Try.func12, Try.ntmps12
    go_wp2_with fail
    refine (place_any n _ _ (by omega) (by omega)).mono ?_
    rintro e w' ⟨rfl, rfl⟩
    rw [Hi.out]
    go_wp2_with fail
    refine (place_any m _ _ (by omega) (by omega)).mono ?_
    rintro e w' ⟨rfl, rfl⟩
    rw [Hd.out]
    have hs1 := fun W => slice_to a len cap i W (by omega)
    have hs2 := fun W => slice_mid a len cap i (i + d) W (by omega) (by omega)
    have hs3 := fun W => slice_from a len cap (i + d) W (by omega)
    rw [show ((i + d : Nat) : Int) = (i : Int) + d from by omega] at hs2 hs3
    rw [Nat.add_sub_cancel_left] at hs2
    have htot : (pre (three a len cap l i d) 3).length ≤ 9223372036854775807 := by rw [pre_three, Hl.out]; omega
    have hok : ∀ s ∈ three a len cap l i d, s.Ok w.drew := three_ok (Hb.out.drewN 1) Hl.out hc hm i d hdl
    go_wp2_with fail
    go_region_held_law (fun _ => True) (trivial) (first
      | (go_at_call 31; refine (pieces_any seed (some ⟨w.heap.size, 0, none⟩) 3 3 (three a len cap l i d) _ (Ls_new w.drew (three a len cap l i d) _ _ rfl rfl hok) rfl (by decide) htot).mono ?_; rintro e w1 ⟨A1, C1, rfl, o1, b1⟩))
    have b01 : Below w.heap.size w w1 := (Below.mono (B := w.drew.heap.size) ((Below.refl w.heap.size w).drew.alloc (Nat.le_refl _) _) (Nat.le_refl _)).trans (b1.mono (by simp))
    go_wp2_with fail
    have hok1 : ∀ s ∈ [(⟨a, len, cap, l⟩ : Sl)], s.Ok w1 := by
      intro s hs
      rw [List.mem_singleton] at hs
      subst hs
      exact ⟨Hb.out.mem b01, Hl.out, hc, hm⟩
    refine (pieces_any seed (some ⟨w1.heap.size, 0, none⟩) 1 1 [⟨a, len, cap, l⟩] _ (Ls_new w1 [⟨a, len, cap, l⟩] _ _ rfl rfl hok1) rfl (by decide) (by rw [pre_one, Hl.out]; omega)).mono ?_
    rintro e w2 ⟨A2, C2, rfl, o2, b2⟩
    have b12 : Below w1.heap.size w1 w2 := ((Below.refl w1.heap.size w1).alloc (Nat.le_refl _) _).trans (b2.mono (by simp))
    have b02 := b01.trans (b12.mono b01.size)
    have o1 := owns_block (w' := w2) o1 (fun j hj => b12.block j (o1.lt j hj).2)
    clear b1 b2 b01 b12 hok1
    go_wp2_with fail
    rcases o1.2 with ⟨_, h⟩ | ⟨g1, c1', cur1, e1, _⟩
    · exact absurd h (by decide)
    rcases o2.2 with ⟨_, h⟩ | ⟨g2, c2', cur2, e2, _⟩
    · exact absurd h (by decide)
    injection e1 with ea _ ec
    subst ea ec
    injection e2 with ea _ ec
    subst ea ec
    have k0 : w2.cell? ⟨g1, 12, none⟩ = some (.int .u32 (un (sum32 l seed))) := (o1.cellAt 12 (by decide)).trans ((tcs_at3 (three a len cap l i d) seed 0).trans (by rw [pre_three]; rfl))
    have k1 : w2.cell? ⟨g1, 13, none⟩ = some (.int .u64 (un (sum128 l seed).1)) := (o1.cellAt 13 (by decide)).trans ((tcs_at3 (three a len cap l i d) seed 1).trans (by rw [pre_three]; rfl))
    have k2 : w2.cell? ⟨g1, 14, none⟩ = some (.int .u64 (un (sum128 l seed).1)) := (o1.cellAt 14 (by decide)).trans ((tcs_at3 (three a len cap l i d) seed 2).trans (by rw [pre_three]; rfl))
    have k3 : w2.cell? ⟨g1, 15, none⟩ = some (.int .u64 (un (sum128 l seed).2)) := (o1.cellAt 15 (by decide)).trans ((tcs_at3 (three a len cap l i d) seed 3).trans (by rw [pre_three]; rfl))
    have j0 : w2.cell? ⟨g2, 4, none⟩ = some (.int .u32 (un (sum32 l seed))) := (o2.cellAt 4 (by decide)).trans ((tcs_at1 [⟨a, len, cap, l⟩] seed 0).trans (by rw [pre_one]; rfl))
    have j1 : w2.cell? ⟨g2, 5, none⟩ = some (.int .u64 (un (sum128 l seed).1)) := (o2.cellAt 5 (by decide)).trans ((tcs_at1 [⟨a, len, cap, l⟩] seed 1).trans (by rw [pre_one]; rfl))
    have j2 : w2.cell? ⟨g2, 6, none⟩ = some (.int .u64 (un (sum128 l seed).1)) := (o2.cellAt 6 (by decide)).trans ((tcs_at1 [⟨a, len, cap, l⟩] seed 2).trans (by rw [pre_one]; rfl))
    have j3 : w2.cell? ⟨g2, 7, none⟩ = some (.int .u64 (un (sum128 l seed).2)) := (o2.cellAt 7 (by decide)).trans ((tcs_at1 [⟨a, len, cap, l⟩] seed 3).trans (by rw [pre_one]; rfl))
    clear o1 o2
    refine wp_region_quiet_lit (by kernel_rfl) (by kernel_rfl) ?_
    iterate 21 (go_big_quiet_step (fail))
    refine wpQuiet_eql38 (by rfl) _ _ _ rfl _ _ _ _ _ _ _ _ rfl rfl (.bool true) (by simp) ?_
    simp only [Act.put, List.setIfInBounds_toArray, List.set_cons_succ, List.set_cons_zero]
    repeat (go_big_quiet_step (fail))
    refine wpQuiet_nil ?_
    rintro _ ⟨nq, rfl⟩
    go_wp2_with fail
    go_ret
    exact ⟨rfl, below_drewN b02 nq⟩
end Go.Proofs.Ytfnejnoldonfeaa
