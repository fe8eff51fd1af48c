/-
  The closure of impl.Appended.
  Conditions: the digest lies in memory; the slice that it holds lies in memory.
-/
import Derived.Test.YtfnejnoldonfeaaDs
import Derived.Deep.RegionHeldLaw
namespace Go.Proofs.Ytfnejnoldonfeaa
open Go.RowKit BigFrame

theorem step_app {ops : Array Oper} {o : Oper} {ac : Act} {w : World} {K : Act → World → Prop} {Q : Exit → Act → World → Prop} {E : Prop} (hgd : o.guard = none) (s x : Operand)
    (ho : o.op = .call { callee := .builtin .append, args := #[s, x], argTypes := #[22, 22] }) (base : Nat) (a : Option Addr) (len cap : Nat) (l : List UInt8) (hs : ac.eval s = .slice a len cap) (h : Own w base a len cap l)
    (A : Option Addr) (m c : Nat) (news : List UInt8) (hx : ac.eval x = .slice A m c) (hr : Bs w A news) (hm : news.length = m) (hlen : len + m ≤ 140737488355328) (hbase : base ≤ w.heap.size)
    (hk : ∀ a' cap' w', Own w' base a' (len + m) cap' (l ++ news) → w.grownBy w' (Value.slice a len cap).ownBlock → K (ac.put o.dst (.slice a' (len + m) cap')) w') :
    if Region.wanted o (yielded ops ac.tmps) = true then Oper.wp Try.prog o ac w K Q else E := by
  rw [if_pos (by simp [Region.wanted, hgd])]
  obtain ⟨a', cap', w', hrun, h2, h3, h4⟩ := run_app w o.type base a len cap l h A m c news hr hm hlen hbase
  unfold Oper.wp execOp
  simp only [ho, resolve, invoke, builtin, Sem.run_bind, Sem.run_pure, Result.andThen_ok, List.map_toArray, List.map_cons, List.map_nil, hs, hx, hrun]
  exact hk a' cap' w' h2 h3

set_option maxRecDepth 100000 in
set_option maxHeartbeats 1600000 in
theorem clo128_any (g : Nat) (seed : BitVec 32) (l : List UInt8) (b : Nat) (A : Option Addr) (m c : Nat) (q : List UInt8) (w : World) (s : St128 g seed l w) (hb : w.cell? ⟨b, 0, none⟩ = some (.slice A m c)) (hq : Bs w A q) (hl : q.length = m) (hm : m ≤ 2147483647) :
    Calls Try.prog 61 #[.iface 103 (.pointer (some ⟨g, 0, none⟩)), .pointer (some ⟨b, 0, none⟩)] w fun e w' => ∃ A' c', e = .returned (.slice A' (m + 16) c') ∧ Own w' w.heap.size A' (m + 16) c' (q ++ (be8 (sum128 l seed).1 ++ be8 (sum128 l seed).2)) ∧ Below w.heap.size w w' := by
  have hbl : b < w.heap.size := cell_in hb
  have S := Lib.hid s
  have Hq := Lib.hid hq
  have Hl := Lib.hid hl
  clear s hq hl
  have hN : ∀ W : World, (nilAhead 236 103 (.pointer (some ⟨g, 0, none⟩)) "Sum").run Try.prog W = .ok (some false) W := fun W => by kernel_rfl
  go_enter Try.func61, Try.ntmps61
  go_wp2_with fail
  go_region_held_law (fun w' => w'.cell? ⟨b, 0, none⟩ = some (.slice A m c)) (first | assumption | exact hb) (first
    | (refine step_app rfl _ _ rfl w.heap.size none 0 0 [] rfl (Own.nil _ _) A m c q rfl (Hq.out.drewN 1) Hl.out (by omega) (Nat.le_refl _) ?_; intro a1 c1 w1 hown hg; simp only [Nat.zero_add, List.nil_append] at hown ⊢; have hbx : w1.cell? ⟨b, 0, none⟩ = some (.slice A m c) := by (rw [World.cell?_of_block (w := w) (hg.block b hbl (by simp [Value.ownBlock]))]; exact hb))
    | (go_at_call 97; refine (sums128_any g seed l w.heap.size a1 m c1 q w1 (S.out.keep (hg.block g S.out.lt (by simp [Value.ownBlock]))) hown hm hg.size).mono ?_; rintro e w2 ⟨a2, c2, rfl, hown2, hb2⟩; have hbx2 : w2.cell? ⟨b, 0, none⟩ = some (.slice A m c) := (hb2.cell hbl).trans hbx))
  all_goals
    go_wp2_with fail
    go_ret
    exact ⟨a2, c2, rfl, hown2, (Below.grown (a := w) (w := w.drew) ⟨rfl, rfl, rfl, Nat.le_refl _, fun _ _ => rfl⟩ hg (Nat.le_refl _) (fun k hk => by cases hk)).trans hb2⟩
set_option maxRecDepth 100000 in
set_option maxHeartbeats 1600000 in
theorem clo64_any (g : Nat) (seed : BitVec 32) (l : List UInt8) (b : Nat) (A : Option Addr) (m c : Nat) (q : List UInt8) (w : World) (s : St128 g seed l w) (hb : w.cell? ⟨b, 0, none⟩ = some (.slice A m c)) (hq : Bs w A q) (hl : q.length = m) (hm : m ≤ 2147483647) :
    Calls Try.prog 61 #[.iface 117 (.pointer (some ⟨g, 0, none⟩)), .pointer (some ⟨b, 0, none⟩)] w fun e w' => ∃ A' c', e = .returned (.slice A' (m + 8) c') ∧ Own w' w.heap.size A' (m + 8) c' (q ++ be8 (sum128 l seed).1) ∧ Below w.heap.size w w' := by
  have hbl : b < w.heap.size := cell_in hb
  have S := Lib.hid s
  have Hq := Lib.hid hq
  have Hl := Lib.hid hl
  clear s hq hl
  have hN : ∀ W : World, (nilAhead 236 117 (.pointer (some ⟨g, 0, none⟩)) "Sum").run Try.prog W = .ok (some false) W := fun W => by kernel_rfl
  go_enter Try.func61, Try.ntmps61
  go_wp2_with fail
  go_region_held_law (fun w' => w'.cell? ⟨b, 0, none⟩ = some (.slice A m c)) (first | assumption | exact hb) (first
    | (refine step_app rfl _ _ rfl w.heap.size none 0 0 [] rfl (Own.nil _ _) A m c q rfl (Hq.out.drewN 1) Hl.out (by omega) (Nat.le_refl _) ?_; intro a1 c1 w1 hown hg; simp only [Nat.zero_add, List.nil_append] at hown ⊢; have hbx : w1.cell? ⟨b, 0, none⟩ = some (.slice A m c) := by (rw [World.cell?_of_block (w := w) (hg.block b hbl (by simp [Value.ownBlock]))]; exact hb))
    | (go_at_call 105; refine (sums64_any g seed l w.heap.size a1 m c1 q w1 (S.out.keep (hg.block g S.out.lt (by simp [Value.ownBlock]))) hown hm hg.size).mono ?_; rintro e w2 ⟨a2, c2, rfl, hown2, hb2⟩; have hbx2 : w2.cell? ⟨b, 0, none⟩ = some (.slice A m c) := (hb2.cell hbl).trans hbx))
  all_goals
    go_wp2_with fail
    go_ret
    exact ⟨a2, c2, rfl, hown2, (Below.grown (a := w) (w := w.drew) ⟨rfl, rfl, rfl, Nat.le_refl _, fun _ _ => rfl⟩ hg (Nat.le_refl _) (fun k hk => by cases hk)).trans hb2⟩
set_option maxRecDepth 100000 in
set_option maxHeartbeats 1600000 in
theorem clo32_any (g : Nat) (seed : BitVec 32) (l : List UInt8) (b : Nat) (A : Option Addr) (m c : Nat) (q : List UInt8) (w : World) (s : St32 g seed l w) (hb : w.cell? ⟨b, 0, none⟩ = some (.slice A m c)) (hq : Bs w A q) (hl : q.length = m) (hm : m ≤ 2147483647) :
    Calls Try.prog 61 #[.iface 114 (.pointer (some ⟨g, 0, none⟩)), .pointer (some ⟨b, 0, none⟩)] w fun e w' => ∃ A' c', e = .returned (.slice A' (m + 4) c') ∧ Own w' w.heap.size A' (m + 4) c' (q ++ be4 (sum32 l seed)) ∧ Below w.heap.size w w' := by
  have hbl : b < w.heap.size := cell_in hb
  have S := Lib.hid s
  have Hq := Lib.hid hq
  have Hl := Lib.hid hl
  clear s hq hl
  have hN : ∀ W : World, (nilAhead 236 114 (.pointer (some ⟨g, 0, none⟩)) "Sum").run Try.prog W = .ok (some false) W := fun W => by kernel_rfl
  go_enter Try.func61, Try.ntmps61
  go_wp2_with fail
  go_region_held_law (fun w' => w'.cell? ⟨b, 0, none⟩ = some (.slice A m c)) (first | assumption | exact hb) (first
    | (refine step_app rfl _ _ rfl w.heap.size none 0 0 [] rfl (Own.nil _ _) A m c q rfl (Hq.out.drewN 1) Hl.out (by omega) (Nat.le_refl _) ?_; intro a1 c1 w1 hown hg; simp only [Nat.zero_add, List.nil_append] at hown ⊢; have hbx : w1.cell? ⟨b, 0, none⟩ = some (.slice A m c) := by (rw [World.cell?_of_block (w := w) (hg.block b hbl (by simp [Value.ownBlock]))]; exact hb))
    | (go_at_call 101; refine (sums32_any g seed l w.heap.size a1 m c1 q w1 (S.out.keep (hg.block g S.out.lt (by simp [Value.ownBlock]))) hown hm hg.size).mono ?_; rintro e w2 ⟨a2, c2, rfl, hown2, hb2⟩; have hbx2 : w2.cell? ⟨b, 0, none⟩ = some (.slice A m c) := (hb2.cell hbl).trans hbx))
  all_goals
    go_wp2_with fail
    go_ret
    exact ⟨a2, c2, rfl, hown2, (Below.grown (a := w) (w := w.drew) ⟨rfl, rfl, rfl, Nat.le_refl _, fun _ _ => rfl⟩ hg (Nat.le_refl _) (fun k hk => by cases hk)).trans hb2⟩
end Go.Proofs.Ytfnejnoldonfeaa
