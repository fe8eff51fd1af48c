/-
  What a digest's buffer holds behind an append in place, behind a copy; bytes in pieces.
  Conditions: the digest lies in memory as 'Dig' says.
-/
import Derived.Test.YtfnejnoldonfeaaH2
import Derived.Test.YtfnejnoldonfeaaForge
import Derived.Laws.CopyOwn
namespace Go.Proofs.Ytfnejnoldonfeaa
open Go.RowKit

theorem dc_splice (clen : Nat) (tail bm : Value) (buf : List UInt8) (seed : BitVec 32) (h : List Value) (t : Nat) (q : List UInt8) (hb : buf.length = 16) (hr : t + q.length ≤ 16) :
    (dc clen tail buf seed bm h).take (2 + t) ++ q.map bc ++ (dc clen tail buf seed bm h).drop (2 + t + q.length) = dc clen tail (buf.take t ++ q ++ buf.drop (t + q.length)) seed bm h := by
  unfold dc
  rw [show 2 + t = t + 1 + 1 from by omega, List.take_succ_cons, List.take_succ_cons, List.take_append_of_le_length (by simp [hb]; omega)]
  rw [show t + 1 + 1 + q.length = (t + q.length) + 1 + 1 from by omega, List.drop_succ_cons, List.drop_succ_cons, List.drop_append_of_le_length (by simp [hb]; omega)]
  simp [List.map_take, List.map_drop]
theorem bc_one (q : List UInt8) : ∀ u ∈ q.map bc, u.oneCell' = true := fun u hu => by obtain ⟨y, _, rfl⟩ := List.mem_map.1 hu; rfl
section
variable {w : World} {g clen : Nat} {E : TypeId} {tail bm : Value} {buf : List UInt8} {seed : BitVec 32} {h : List Value}
theorem Dig.splice (d : Dig w g E clen tail buf seed bm h) (t : Nat) (q : List UInt8) (hr : t + q.length ≤ 16) :
    Dig (w.setRow g ((dc clen tail buf seed bm h).toArray.toList.take (2 + t) ++ q.map bc ++ (dc clen tail buf seed bm h).toArray.toList.drop (2 + t + q.length)).toArray) g E clen tail (buf.take t ++ q ++ buf.drop (t + q.length)) seed bm h := by
  refine ⟨by have := d.len; simp; omega, ?_⟩
  rw [setRow_heap w g _ _ E (0, 0) d.heap]
  rw [dc_splice _ _ _ _ _ _ _ _ d.len hr]
theorem Only.setRow {a w : World} (o : Only g a w) (cs : Array Value) : Only g a (w.setRow g cs) :=
  o.trans ⟨rfl, rfl, rfl, by simp, fun k hk => setRow_other w g k cs hk⟩
theorem dc_len (hb : buf.length = 16) : (dc clen tail buf seed bm h).length = 20 + h.length := by simp [dc, hb]; omega
theorem run_append_in {P : Program} (w : World) (t ty e : TypeId) (i : TypeInfo) (ht : P.underlying t = some (.slice e)) (hi : P.info? e = some i) (hsz : i.size = 1) (g o sLen sCap : Nat) (cur : Array Value) (E : TypeId)
    (hg : w.heap[g]? = some (.cells cur E (0, 0))) (a : Addr) (m c : Nat) (news : List Value) (hl : news.length = m) (hnews : ∀ j u, news[j]? = some u → w.cell? (a.add j) = some u) (h1 : ∀ u ∈ news, u.oneCell' = true)
    (hroom : sLen + m ≤ sCap) (hfit : o + sLen + m ≤ cur.size) :
    (Builtin.append_ #[t, t] ty #[.slice (some ⟨g, o, none⟩) sLen sCap, .slice (some a) m c]).run P w =
      .ok (.slice (some ⟨g, o, none⟩) (sLen + m) sCap) (w.setRow g (cur.toList.take (o + sLen) ++ news ++ cur.toList.drop (o + sLen + news.length)).toArray) := by
  have hf := run_firstCells_some (P := P) (w := w) i.size m a m c news (by rw [hl, hsz, Nat.mul_one]) hnews
  have hst := run_storeCells_at P g (o + sLen) E news 0 cur w hg (by rw [hl]; omega) h1
  simp only [Nat.add_zero] at hst
  rw [hsz] at hf
  simp [Builtin.append_, run_underlying ht, sizeOf, typeInfo, hi, Builtin.lenOf, hroom, hsz, hf, Addr.add_lit, hst]
/-- append into a digest's buffer: there is room. -/
theorem run_app_in (d : Dig w g E clen tail buf seed bm h) (ty t : Nat) (A : Option Addr) (m c : Nat) (q : List UInt8) (hr : Bs w A q) (hm : q.length = m) (hroom : t + m ≤ 16) :
    ∃ w', (Builtin.append_ #[22, 22] ty #[.slice (some ⟨g, 2, none⟩) t 16, .slice A m c]).run Try.prog w = .ok (.slice (some ⟨g, 2, none⟩) (t + m) 16) w' ∧ Dig w' g E clen tail (buf.take t ++ q ++ buf.drop (t + m)) seed bm h ∧ Only g w w' := by
  obtain ⟨i0, hi, hz0, hz1, hz2⟩ := info_parts info5
  subst hm
  cases A with
  | none =>
    have h0 : q = [] := by
      rcases hr with e | ⟨b, off, e, _⟩
      · exact e
      · cases e
    subst h0
    refine ⟨w, run_append_none w 22 ty 5 i0 Try.underlying22 hi _ t 16 c (by simp at hroom; omega), ?_, Only.refl g w⟩
    simpa using d
  | some A =>
    have hrun := run_append_in (P := Try.prog) w 22 ty 5 i0 Try.underlying22 hi hz1 g 2 t 16 (dc clen tail buf seed bm h).toArray E d.heap A q.length c (q.map bc) (by simp) hr.news (bc_one q) hroom (by simp [dc_len d.len]; omega)
    rw [List.length_map] at hrun
    exact ⟨_, hrun, d.splice t q hroom, (Only.refl g w).setRow _⟩
theorem wpList_app_in {ops : Array Oper} {rest : List Oper} {o : Oper} {ac : Act} {Q : Exit → Act → World → Prop} (d : Dig w g E clen tail buf seed bm h) (hgd : o.guard = none) (s x : Operand)
    (ho : o.op = .call { callee := .builtin .append, args := #[s, x], argTypes := #[22, 22] }) (t : Nat) (hs : ac.eval s = .slice (some ⟨g, 2, none⟩) t 16)
    (A : Option Addr) (m c : Nat) (q : List UInt8) (hx : ac.eval x = .slice A m c) (hr : Bs w A q) (hm : q.length = m) (hroom : t + m ≤ 16)
    (hk : ∀ w', Dig w' g E clen tail (buf.take t ++ q ++ buf.drop (t + m)) seed bm h → Only g w w' → wpList Try.prog ops Q rest (ac.put o.dst (.slice (some ⟨g, 2, none⟩) (t + m) 16)) w') :
    wpList Try.prog ops Q (o :: rest) ac w := by
  refine wpList_plain hgd fun K hK => ?_
  obtain ⟨w', hrun, h2, h3⟩ := run_app_in d o.type t A m c q hr hm hroom
  unfold Oper.wp execOp
  simp only [ho, resolve, invoke, builtin, Sem.run_bind, Sem.run_pure, Result.andThen_ok, List.map_toArray, List.map_cons, List.map_nil, hs, hx, hrun]
  exact hK _ _ (hk w' h2 h3)
/-- copy into a digest's buffer. -/
theorem run_copy_in (d : Dig w g E clen tail buf seed bm h) (ty : TypeId) (A : Option Addr) (m c : Nat) (q : List UInt8) (hr : Bs w A q) (hm : q.length = m) (hroom : m ≤ 16) :
    ∃ w', (Builtin.copy_ #[22, 22] ty #[.slice (some ⟨g, 2, none⟩) 16 16, .slice A m c]).run Try.prog w = .ok (goInt m) w' ∧ Dig w' g E clen tail (q ++ buf.drop m) seed bm h ∧ Only g w w' := by
  subst hm
  have hsz : (Try.prog.info? 5).map (·.size) = some 1 := by kernel_rfl
  by_cases h0 : q.length = 0
  · have hq : q = [] := List.length_eq_zero_iff.1 h0
    subst hq
    exact ⟨w, run_copy_none w 22 22 ty 5 _ A 16 16 0 c Try.underlying22 hsz (by simp), by simpa using d, Only.refl g w⟩
  · obtain ⟨b, off, rfl, hx⟩ := hr.resolve_left (by intro e; subst e; exact h0 rfl)
    have hrun := run_copy_row (P := Try.prog) w 22 22 ty 5 g 2 16 16 ⟨b, off, none⟩ q.length c (dc clen tail buf seed bm h).toArray E (q.map bc) Try.underlying22 hsz d.heap (by rw [List.length_map]; exact (Nat.min_eq_left hroom).symm) (Bs.news (.inr ⟨b, off, rfl, hx⟩)) (by simp [dc_len d.len]; omega) (bc_one q)
    rw [List.length_map] at hrun
    have d2 := d.splice 0 q (by omega)
    simp only [Nat.add_zero, List.take_zero, List.nil_append, Nat.zero_add] at d2
    exact ⟨_, hrun, d2, (Only.refl g w).setRow _⟩
theorem wpList_copy_in {ops : Array Oper} {rest : List Oper} {o : Oper} {ac : Act} {Q : Exit → Act → World → Prop} (d : Dig w g E clen tail buf seed bm h) (hgd : o.guard = none) (s x : Operand)
    (ho : o.op = .call { callee := .builtin .copy, args := #[s, x], argTypes := #[22, 22] }) (hs : ac.eval s = .slice (some ⟨g, 2, none⟩) 16 16)
    (A : Option Addr) (m c : Nat) (q : List UInt8) (hx : ac.eval x = .slice A m c) (hr : Bs w A q) (hm : q.length = m) (hroom : m ≤ 16)
    (hk : ∀ w', Dig w' g E clen tail (q ++ buf.drop m) seed bm h → Only g w w' → wpList Try.prog ops Q rest (ac.put o.dst (.int .i64 (m : Int))) w') :
    wpList Try.prog ops Q (o :: rest) ac w := by
  refine wpList_plain hgd fun K hK => ?_
  obtain ⟨w', hrun, h2, h3⟩ := run_copy_in d o.type A m c q hr hm hroom
  unfold Oper.wp execOp
  simp only [ho, resolve, invoke, builtin, Sem.run_bind, Sem.run_pure, Result.andThen_ok, List.map_toArray, List.map_cons, List.map_nil, hs, hx, hrun]
  exact hK _ _ (hk w' h2 h3)
end
theorem Bs.own {w : World} {g clen : Nat} {E : TypeId} {tail bm : Value} {buf : List UInt8} {seed : BitVec 32} {h : List Value} (d : Dig w g E clen tail buf seed bm h) (n : Nat) : Bs w (some ⟨g, 2, none⟩) (buf.take n) := by
  by_cases h0 : buf.take n = []
  · exact .inl h0
  · refine .inr ⟨g, 2, rfl, fun i hi => ?_⟩
    have := d.len
    rw [List.length_take] at hi
    rw [d.bufAt i (by omega), getD_take _ _ _ (by omega)]
    rfl

/-! ### bytes in pieces -/
theorem st128_from (m : List UInt8) (h : BitVec 64 × BitVec 64) (a j : Nat) : st128 m h (a + j) = st128 (m.drop (16 * a)) (st128 m h a) j := by
  induction j with
  | zero => rfl
  | succ j ih =>
    show step128 (st128 m h (a + j)) (le8 (m.drop (16 * (a + j)))) (le8 (m.drop (16 * (a + j) + 8))) = step128 _ _ _
    rw [ih, List.drop_drop, List.drop_drop, show 16 * (a + j) + 8 = 16 * a + (16 * j + 8) from by omega, show 16 * (a + j) = 16 * a + 16 * j from by omega]
theorem st32_from (m : List UInt8) (h : BitVec 32) (a j : Nat) : st32 m h (a + j) = st32 (m.drop (4 * a)) (st32 m h a) j := by
  induction j with
  | zero => rfl
  | succ j ih =>
    show step32 (st32 m h (a + j)) (le4 (m.drop (4 * (a + j)))) = step32 _ _
    rw [ih, List.drop_drop, show 4 * (a + j) = 4 * a + 4 * j from by omega]
theorem drop_pending (l q : List UInt8) (k : Nat) (hk : k ≤ l.length) : (l ++ q).drop k = l.drop k ++ q := List.drop_append_of_le_length hk
/-- The state behind l, then q. -/
theorem more128 (l q : List UInt8) (h : BitVec 64 × BitVec 64) : st128 (l ++ q) h ((l ++ q).length / 16) = st128 (l.drop (16 * (l.length / 16)) ++ q) (st128 l h (l.length / 16)) ((l.drop (16 * (l.length / 16)) ++ q).length / 16) := by
  rw [← drop_pending _ _ _ (by omega), ← st128_agree h _ (agree_append l q _ (by omega)), ← st128_from]
  congr 1
  simp; omega
theorem rest128 (l q : List UInt8) : (l ++ q).drop (16 * ((l ++ q).length / 16)) = (l.drop (16 * (l.length / 16)) ++ q).drop (16 * ((l.drop (16 * (l.length / 16)) ++ q).length / 16)) := by
  rw [← drop_pending _ _ _ (by omega), List.drop_drop]
  congr 1
  simp; omega
theorem more32 (l q : List UInt8) (h : BitVec 32) : st32 (l ++ q) h ((l ++ q).length / 4) = st32 (l.drop (4 * (l.length / 4)) ++ q) (st32 l h (l.length / 4)) ((l.drop (4 * (l.length / 4)) ++ q).length / 4) := by
  rw [← drop_pending _ _ _ (by omega), ← st32_agree h _ (agree_append l q _ (by omega)), ← st32_from]
  congr 1
  simp; omega
theorem rest32 (l q : List UInt8) : (l ++ q).drop (4 * ((l ++ q).length / 4)) = (l.drop (4 * (l.length / 4)) ++ q).drop (4 * ((l.drop (4 * (l.length / 4)) ++ q).length / 4)) := by
  rw [← drop_pending _ _ _ (by omega), List.drop_drop]
  congr 1
  simp; omega
/-- One block out of pending bytes and new ones, then the others. -/
theorem one128 (r q : List UInt8) (h : BitVec 64 × BitVec 64) (f : Nat) (hf : r.length + f = 16) (hq : f ≤ q.length) :
    st128 (r ++ q) h ((r ++ q).length / 16) = st128 (q.drop f) (st128 (r ++ q.take f) h 1) ((q.drop f).length / 16) := by
  have e1 : (r ++ q).length / 16 = 1 + (q.drop f).length / 16 := by simp; omega
  have e2 : (r ++ q).drop (16 * 1) = q.drop f := by rw [show 16 * 1 = r.length + f from by omega, ← List.drop_drop, List.drop_left]
  have e3 : st128 (r ++ q) h 1 = st128 (r ++ q.take f) h 1 := st128_agree h 1 (fun i _ hi => by
    rw [List.getD_eq_getElem?_getD, List.getD_eq_getElem?_getD]
    rcases Nat.lt_or_ge i r.length with h1 | h1
    · rw [List.getElem?_append_left h1, List.getElem?_append_left h1]
    · rw [List.getElem?_append_right h1, List.getElem?_append_right h1, List.getElem?_take, if_pos (by omega)])
  rw [e1, st128_from, e2, e3]
theorem oner128 (r q : List UInt8) (f : Nat) (hf : r.length + f = 16) (hq : f ≤ q.length) : (r ++ q).drop (16 * ((r ++ q).length / 16)) = (q.drop f).drop (16 * ((q.drop f).length / 16)) := by
  have e1 : (r ++ q).length / 16 = 1 + (q.drop f).length / 16 := by simp; omega
  have e2 : (r ++ q).drop (16 * 1) = q.drop f := by rw [show 16 * 1 = r.length + f from by omega, ← List.drop_drop, List.drop_left]
  rw [e1, Nat.mul_add, ← List.drop_drop, e2]
theorem one32 (r q : List UInt8) (h : BitVec 32) (f : Nat) (hf : r.length + f = 4) (hq : f ≤ q.length) :
    st32 (r ++ q) h ((r ++ q).length / 4) = st32 (q.drop f) (st32 (r ++ q.take f) h 1) ((q.drop f).length / 4) := by
  have e1 : (r ++ q).length / 4 = 1 + (q.drop f).length / 4 := by simp; omega
  have e2 : (r ++ q).drop (4 * 1) = q.drop f := by rw [show 4 * 1 = r.length + f from by omega, ← List.drop_drop, List.drop_left]
  have e3 : st32 (r ++ q) h 1 = st32 (r ++ q.take f) h 1 := st32_agree h 1 (fun i _ hi => by
    rw [List.getD_eq_getElem?_getD, List.getD_eq_getElem?_getD]
    rcases Nat.lt_or_ge i r.length with h1 | h1
    · rw [List.getElem?_append_left h1, List.getElem?_append_left h1]
    · rw [List.getElem?_append_right h1, List.getElem?_append_right h1, List.getElem?_take, if_pos (by omega)])
  rw [e1, st32_from, e2, e3]
theorem oner32 (r q : List UInt8) (f : Nat) (hf : r.length + f = 4) (hq : f ≤ q.length) : (r ++ q).drop (4 * ((r ++ q).length / 4)) = (q.drop f).drop (4 * ((q.drop f).length / 4)) := by
  have e1 : (r ++ q).length / 4 = 1 + (q.drop f).length / 4 := by simp; omega
  have e2 : (r ++ q).drop (4 * 1) = q.drop f := by rw [show 4 * 1 = r.length + f from by omega, ← List.drop_drop, List.drop_left]
  rw [e1, Nat.mul_add, ← List.drop_drop, e2]
end Go.Proofs.Ytfnejnoldonfeaa
