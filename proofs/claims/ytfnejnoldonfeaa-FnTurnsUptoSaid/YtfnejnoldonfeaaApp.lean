/-
  A slice of bytes that the call itself made ('Own'): append to it, store into it; 'place' and 'changed'.
  Conditions: lengths far below 2^47.
-/
import Derived.Test.YtfnejnoldonfeaaReg
import Derived.Maps.AppendAt
namespace Go.Proofs.Ytfnejnoldonfeaa
open Go.RowKit

/-- A byte's cell. -/
def bc (x : UInt8) : Value := .int .u8 (x.toNat : Int)
/-- A slice of bytes of the call's own: nil, or at the head of a block from 'base' on. -/
def Own (w : World) (base : Nat) (a : Option Addr) (len cap : Nat) (l : List UInt8) : Prop :=
  l.length = len ∧ w.ownsRow base 5 1 (.slice a len cap) len (l.map bc)

theorem Own.nil (w : World) (base : Nat) : Own w base none 0 0 [] := ⟨rfl, World.ownsRow_nil w base 5 1⟩
theorem Own.le {w : World} {base len cap : Nat} {a : Option Addr} {l : List UInt8} (h : Own w base a len cap l) : len ≤ cap ∧ cap ≤ 9223372036854775807 := by
  rcases h.2.2 with ⟨e, _⟩ | ⟨g, c, cur, e, _, _, h1, h2, _⟩
  · injection e with _ e1 e2; omega
  · injection e with _ _ e2; unfold maxLen at h2; omega
theorem Own.bs {w : World} {base len cap : Nat} {a : Option Addr} {l : List UInt8} (h : Own w base a len cap l) : Bs w a l := by
  rcases h.2.2 with ⟨e, e0⟩ | ⟨g, c, cur, e, _, hg, h1, h2, hs, ht⟩
  · exact .inl (List.length_eq_zero_iff.1 (by rw [h.1, e0]))
  · injection e with ea _ _
    refine .inr ⟨g, 0, ea, fun i hi => ?_⟩
    rw [Nat.zero_add, cell_of_row w g i cur 5 (0, 0) hg]
    have e2 : (cur.toList.take (len * 1))[i]? = (l.map bc)[i]? := by rw [ht]
    rw [List.getElem?_take, if_pos (by have := h.1; omega), List.getElem?_map] at e2
    rw [← Array.getElem?_toList, e2, List.getD_eq_getElem?_getD, List.getElem?_eq_getElem hi]
    rfl
theorem Own.block {w w' : World} {base len cap : Nat} {a : Option Addr} {l : List UInt8} (h : Own w base a len cap l) (hb : ∀ k, (Value.slice a len cap).ownBlock = some k → w'.heap[k]? = w.heap[k]?) : Own w' base a len cap l := by
  refine ⟨h.1, h.2.1, ?_⟩
  rcases h.2.2 with e | ⟨g, c, cur, e, h0, hg, r⟩
  · exact .inl e
  · exact .inr ⟨g, c, cur, e, h0, by rw [hb g (by rw [e]; rfl)]; exact hg, r⟩
theorem Own.lt {w : World} {base len cap : Nat} {a : Option Addr} {l : List UInt8} (h : Own w base a len cap l) : ∀ k, (Value.slice a len cap).ownBlock = some k → base ≤ k ∧ k < w.heap.size := h.2.lt
theorem Own.below {w w' : World} {base len cap : Nat} {a : Option Addr} {l : List UInt8} (h : Own w base a len cap l) (hb : Below w.heap.size w w') : Own w' base a len cap l :=
  h.block fun k hk => hb.block k (h.lt k hk).2
theorem Own.drewN {w : World} {base len cap : Nat} {a : Option Addr} {l : List UInt8} (h : Own w base a len cap l) (n : Nat) : Own (w.drewN n) base a len cap l :=
  h.below (below_drewN (Below.refl _ _) n)
theorem Own.less {w : World} {base base' len cap : Nat} {a : Option Addr} {l : List UInt8} (h : Own w base a len cap l) (hb : base' ≤ base) : Own w base' a len cap l := by
  refine ⟨h.1, h.2.1, ?_⟩
  rcases h.2.2 with e | ⟨g, c, cur, e, h0, r⟩
  · exact .inl e
  · exact .inr ⟨g, c, cur, e, by omega, r⟩
theorem Own.form {w : World} {base len cap : Nat} {a : Option Addr} {l : List UInt8} (h : Own w base a len cap l) (h0 : 0 < len) : ∃ g, a = some ⟨g, 0, none⟩ ∧ base ≤ g ∧ g < w.heap.size ∧ ∀ i, w.frozen? ⟨g, i, none⟩ = false := by
  rcases h.2.2 with ⟨_, e⟩ | ⟨g, c, cur, e, hb, hg, _⟩
  · omega
  · injection e with ea _ _
    exact ⟨g, ea, hb, (Array.getElem?_eq_some_iff.1 hg).1, fun i => by simp [World.frozen?, hg]⟩
/-- A store of a byte at place i. -/
theorem Own.set {w : World} {base len cap g : Nat} {l : List UInt8} (h : Own w base (some ⟨g, 0, none⟩) len cap l) (i : Nat) (x : UInt8) :
    Own (w.setCell ⟨g, i, none⟩ (bc x)) base (some ⟨g, 0, none⟩) len cap (l.set i x) := by
  refine ⟨by rw [List.length_set]; exact h.1, by rw [List.length_map, List.length_set, h.1]; omega, ?_⟩
  rcases h.2.2 with ⟨e, _⟩ | ⟨g', c, cur, e, hb, hg, h1, h2, hs, ht⟩
  · cases e
  · injection e with ea _ ec
    injection ea with ea
    injection ea with eg
    subst eg
    refine .inr ⟨g, c, cur.setIfInBounds i (bc x), by rw [ec], hb, ?_, h1, h2, by rw [Array.size_setIfInBounds]; exact hs, ?_⟩
    · simp [World.setCell, Array.getElem?_modify, hg]
    · rw [Array.toList_setIfInBounds, List.take_set, ht, List.map_set]
theorem info5 : (Try.prog.info? 5).map (fun i => (i.zero, i.size, i.bytes)) = some (some (.int .u8 0), 1, 1) := by kernel_rfl
theorem own_grown {w w' : World} {base len cap : Nat} {a : Option Addr} {l : List UInt8} (h : Own w base a len cap l) (hbase : base ≤ w.heap.size) (hg : w.grownBy w' (Value.slice a len cap).ownBlock) : Below base w w' :=
  (Below.refl _ _).grown hg hbase fun k hk => (h.lt k hk).1

theorem Bs.news {w : World} {A : Addr} {news : List UInt8} (hr : Bs w (some A) news) : ∀ j u, (news.map bc)[j]? = some u → w.cell? (A.add j) = some u := by
  intro j u hj
  have hlt : j < news.length := by
    rcases Nat.lt_or_ge j news.length with h1 | h1
    · exact h1
    · rw [List.getElem?_eq_none (by simpa using h1)] at hj; cases hj
  obtain ⟨b, off, e, hx⟩ := hr.resolve_left (by intro e; subst e; simp at hlt)
  injection e with e
  subst e
  rw [Addr.add_mk, hx j hlt, List.getD_eq_getElem?_getD, List.getElem?_eq_getElem hlt]
  rw [List.getElem?_map, List.getElem?_eq_getElem hlt] at hj
  rw [← hj]; rfl
theorem run_append_none {P : Program} (w : World) (t ty e : TypeId) (i : TypeInfo) (ht : P.underlying t = some (.slice e)) (hi : P.info? e = some i) (a : Option Addr) (len cap c : Nat) (h : len ≤ cap) :
    (Builtin.append_ #[t, t] ty #[.slice a len cap, .slice none 0 c]).run P w = .ok (.slice a len cap) w := by
  cases a <;> simp [Builtin.append_, run_underlying ht, sizeOf, typeInfo, hi, Builtin.lenOf, Builtin.firstCells, h, storeCells]
/-- What 'append(s, x...)' does, s a slice of the call's own, x any slice of bytes. -/
theorem run_app (w : World) (ty base : Nat) (a : Option Addr) (len cap : Nat) (l : List UInt8) (h : Own w base a len cap l) (A : Option Addr) (m c : Nat) (news : List UInt8) (hr : Bs w A news) (hm : news.length = m)
    (hlen : len + m ≤ 140737488355328) (hbase : base ≤ w.heap.size) :
    ∃ a' cap' w', (Builtin.append_ #[22, 22] ty #[.slice a len cap, .slice A m c]).run Try.prog w = .ok (.slice a' (len + m) cap') w' ∧ Own w' base a' (len + m) cap' (l ++ news) ∧
      w.grownBy w' (Value.slice a len cap).ownBlock ∧ ((Value.slice a' (len + m) cap').ownBlock = (Value.slice a len cap).ownBlock ∨ (Value.slice a' (len + m) cap').ownBlock = some w.heap.size) := by
  obtain ⟨i0, hi, hz0, hz1, hz2⟩ := info_parts info5
  cases A with
  | none =>
    have h0 : news = [] := by
      rcases hr with e | ⟨b, off, e, _⟩
      · exact e
      · cases e
    subst h0
    subst hm
    refine ⟨a, cap, w, ?_, by simpa using h, World.grownBy.refl w _, .inl rfl⟩
    have hle := h.le
    exact run_append_none w 22 ty 5 i0 Try.underlying22 hi a len cap c hle.1
  | some A =>
    obtain ⟨v', w', hrun, hown, hg, hn, hat⟩ := run_append_own_at (P := Try.prog) w base 22 ty 5 i0 (.int .u8 0) 1 1 Try.underlying22 hi hz0 hz1 hz2 rfl (by omega)
      (.slice a len cap) len (l.map bc) h.2 A m c (news.map bc) (by simpa using hm)
      hr.news
      (fun u hu => by obtain ⟨y, _, rfl⟩ := List.mem_map.1 hu; rfl) (by unfold maxLen; omega) (by omega) hbase
    rcases hown.2 with ⟨e, e0⟩ | ⟨g, c', cur, e, r⟩
    · subst e
      refine ⟨none, 0, w', by rw [hrun, e0], ⟨by rw [List.length_append, h.1, hm], ?_⟩, hg, ?_⟩
      · rw [List.map_append]; exact ⟨hown.1, .inl ⟨by rw [e0], e0⟩⟩
      · exact hat
    · subst e
      refine ⟨_, _, _, hrun, ⟨by rw [List.length_append, h.1, hm], ?_⟩, hg, hat⟩
      rw [List.map_append]
      exact hown
theorem wpList_app {ops : Array Oper} {rest : List Oper} {o : Oper} {ac : Act} {Q : Exit → Act → World → Prop} (w : World) (hgd : o.guard = none) (s x : Operand)
    (ho : o.op = .call { callee := .builtin .append, args := #[s, x], argTypes := #[22, 22] }) (base : Nat) (a : Option Addr) (len cap : Nat) (l : List UInt8) (hs : ac.eval s = .slice a len cap) (h : Own w base a len cap l)
    (A : Option Addr) (m c : Nat) (news : List UInt8) (hx : ac.eval x = .slice A m c) (hr : Bs w A news) (hm : news.length = m) (hlen : len + m ≤ 140737488355328) (hbase : base ≤ w.heap.size)
    (hk : ∀ a' cap' w', Own w' base a' (len + m) cap' (l ++ news) → w.grownBy w' (Value.slice a len cap).ownBlock →
      ((Value.slice a' (len + m) cap').ownBlock = (Value.slice a len cap).ownBlock ∨ (Value.slice a' (len + m) cap').ownBlock = some w.heap.size) → wpList Try.prog ops Q rest (ac.put o.dst (.slice a' (len + m) cap')) w') :
    wpList Try.prog ops Q (o :: rest) ac w := by
  refine wpList_plain hgd fun K hK => ?_
  obtain ⟨a', cap', w', hrun, h2, h3, h4⟩ := run_app w o.type base a len cap l h A m c news hr hm hlen hbase
  unfold Oper.wp execOp
  simp only [ho, resolve, invoke, builtin, Sem.run_bind, Sem.run_pure, Result.andThen_ok, List.map_toArray, List.map_cons, List.map_nil, hs, hx, hrun]
  exact hK _ _ (hk a' cap' w' h2 h3 h4)
theorem tmod_facts (n k : Int) (hk : 1 ≤ k) : -k < n.tmod k ∧ n.tmod k < k ∧ (0 ≤ n.tmod k → n % k = n.tmod k) ∧ (n.tmod k < 0 → n % k = n.tmod k + k) := by
  have hd := Int.mul_tdiv_add_tmod n k
  have e : n % k = n.tmod k % k := by
    have h : (k * n.tdiv k + n.tmod k) % k = n.tmod k % k := Int.mul_add_emod_self_left _ _ _
    rwa [hd] at h
  have a1 := Int.lt_tmod_of_pos n (show 0 < k by omega)
  have a2 := Int.tmod_lt_of_pos n (show 0 < k by omega)
  refine ⟨a1, a2, fun h => ?_, fun h => ?_⟩
  · rw [e]; exact Int.emod_eq_of_lt h a2
  · rw [e, ← Int.add_emod_right, Int.emod_eq_of_lt (by omega) (by omega)]
theorem place_any (n k : Int) (w : World) (hk : 1 ≤ k) (hk2 : k ≤ 2147483648) :
   Calls Try.prog 30 #[.int .i64 n, .int .i64 k] w fun e w' => e = .returned (.int .i64 (n % k)) ∧ w = w' := by
  obtain ⟨a1, a2, a3, a4⟩ := tmod_facts n k hk
  by_cases h0 : 0 ≤ n
  · have h1 := Int.emod_nonneg n (show k ≠ 0 by omega)
    clear a1 a2 a3 a4
    go_enter Try.func30, Try.ntmps30
    go_wp2_with fail
    go_ret
    exact ⟨rfl, rfl⟩
  · have hk0 : (k = 0) = False := by simp; omega
    generalize hT : n.tmod k = t at *
    by_cases ht : t < 0
    · have E := Lib.hid (a4 ht)
      clear a3 a4
      go_enter Try.func30, Try.ntmps30
      go_wp2_with fail
      go_ret
      exact ⟨by rw [E.out]; rfl, rfl⟩
    · have E := Lib.hid (a3 (by omega))
      clear a3 a4
      go_enter Try.func30, Try.ntmps30
      go_wp2_with fail
      go_ret
      exact ⟨by rw [E.out]; rfl, rfl⟩
end Go.Proofs.Ytfnejnoldonfeaa
