/-
  Write of a digest: whatever is pending.
  Conditions: the digest lies in memory as 'Dig' says; the bytes lie elsewhere.
-/
import Derived.Test.YtfnejnoldonfeaaH4A
import Derived.Test.YtfnejnoldonfeaaH4B
import Derived.Test.YtfnejnoldonfeaaH4C
namespace Go.Proofs.Ytfnejnoldonfeaa
open Go.RowKit BigFrame

/-- Block g is a digest that has taken the bytes l. -/
def St128 (g : Nat) (seed : BitVec 32) (l : List UInt8) (w : World) : Prop := ∃ A tc buf, Dig w g 110 l.length (.slice A (l.length - 16 * (l.length / 16)) tc) buf seed (.iface 103 (.pointer (some ⟨g, 0, none⟩))) [.int .u64 (un (st128 l (pair seed) (l.length / 16)).1), .int .u64 (un (st128 l (pair seed) (l.length / 16)).2)] ∧
  ((A = none ∧ l = []) ∨ (A = some ⟨g, 2, none⟩ ∧ tc = 16 ∧ buf.take (l.length - 16 * (l.length / 16)) = l.drop (16 * (l.length / 16))))
theorem St128.make {g : Nat} {seed : BitVec 32} {l : List UInt8} {w : World} {n k : Nat} {buf : List UInt8} {s : BitVec 64 × BitVec 64} (d : Dig w g 110 k (.slice (some ⟨g, 2, none⟩) n 16) buf seed (.iface 103 (.pointer (some ⟨g, 0, none⟩))) [.int .u64 (un s.1), .int .u64 (un s.2)])
    (hk : k = l.length) (hn : n = l.length - 16 * (l.length / 16)) (hs : s = st128 l (pair seed) (l.length / 16)) (hr : buf.take n = l.drop (16 * (l.length / 16))) : St128 g seed l w := by
  subst hk hn hs
  exact ⟨_, _, _, d, .inr ⟨rfl, rfl, hr⟩⟩
theorem St128.keep {g : Nat} {seed : BitVec 32} {l : List UInt8} {w w' : World} (s : St128 g seed l w) (hw : w'.heap[g]? = w.heap[g]?) : St128 g seed l w' := by
  obtain ⟨A, tc, buf, d, h⟩ := s
  exact ⟨A, tc, buf, d.keep hw, h⟩
theorem write128 (g : Nat) (seed : BitVec 32) (l : List UInt8) (a : Option Addr) (len cap : Nat) (q : List UInt8) (w : World) (s : St128 g seed l w)
    (hb : Far g w a q) (hl : q.length = len) (hc : len ≤ cap) (hm : cap ≤ 9223372036854775807) (hn : l.length + len ≤ 9223372036854775807) :
   Calls Try.prog 98 #[.pointer (some ⟨g, 0, none⟩), .slice a len cap] w fun e w' => e = .returned (.tuple #[.int .i64 (len : Int), .nilIface]) ∧ Only g w w' ∧ St128 g seed (l ++ q) w' := by
  obtain ⟨A, tc, buf, d, hA⟩ := s
  have er : (l.drop (16 * (l.length / 16))).length = l.length - 16 * (l.length / 16) := by simp
  have em := more128 l q (pair seed)
  have et := rest128 l q
  have ea : (l ++ q).length = l.length + len := by simp [hl]
  rcases Nat.eq_zero_or_pos (l.length - 16 * (l.length / 16)) with h0 | h0
  · rw [h0] at d
    have e0 : l.drop (16 * (l.length / 16)) = [] := List.length_eq_zero_iff.1 (by omega)
    rw [e0, List.nil_append, hl] at em et
    refine (write128_a g l.length A tc buf seed _ a len cap q w d hb hl hc hm hn).mono ?_
    rintro e w' ⟨rfl, o, buf', d', hr⟩
    exact ⟨rfl, o, St128.make d' ea.symm (by omega) em.symm (by rw [et]; exact hr)⟩
  · obtain ⟨rfl, rfl, hb'⟩ : A = some ⟨g, 2, none⟩ ∧ tc = 16 ∧ buf.take (l.length - 16 * (l.length / 16)) = l.drop (16 * (l.length / 16)) := by
      rcases hA with ⟨_, rfl⟩ | h
      · simp at h0
      · exact h
    generalize ht : l.length - 16 * (l.length / 16) = t at d h0 hb' er
    generalize hR : l.drop (16 * (l.length / 16)) = r at hb' er em et
    generalize hS : st128 l (pair seed) (l.length / 16) = s at d em
    subst hb'
    by_cases hx : t + len ≤ 16
    · refine (write128_c g l.length t buf seed s a len cap q w h0 hx d hb hl hn).mono ?_
      rintro e w' ⟨rfl, o, buf', d', hr⟩
      have e1 : (buf.take t ++ q).length = t + len := by rw [List.length_append, er, hl]
      rw [e1] at em et
      exact ⟨rfl, o, St128.make d' ea.symm (by omega) em.symm (by rw [et]; exact hr)⟩
    · obtain ⟨f, hf⟩ : ∃ f, t + f = 16 := ⟨16 - t, by omega⟩
      refine (write128_b g l.length t f buf seed s a len cap q w h0 hf (by omega) d hb hl hc hm hn).mono ?_
      rintro e w' ⟨rfl, o, buf', d', hr⟩
      have eo := one128 (buf.take t) q s f (by rw [er]; exact hf) (by omega)
      have eo' := oner128 (buf.take t) q f (by rw [er]; exact hf) (by omega)
      have ed : (q.drop f).length = len - f := by rw [List.length_drop, hl]
      rw [ed] at eo eo'
      exact ⟨rfl, o, St128.make d' ea.symm (by omega) (by rw [em, eo]) (by rw [et, eo']; exact hr)⟩
/-- Block g is a digest that has taken the bytes l. -/
def St32 (g : Nat) (seed : BitVec 32) (l : List UInt8) (w : World) : Prop := ∃ A tc buf, Dig w g 116 l.length (.slice A (l.length - 4 * (l.length / 4)) tc) buf seed (.iface 114 (.pointer (some ⟨g, 0, none⟩))) [.int .u32 (un (st32 l seed (l.length / 4)))] ∧
  ((A = none ∧ l = []) ∨ (A = some ⟨g, 2, none⟩ ∧ tc = 16 ∧ buf.take (l.length - 4 * (l.length / 4)) = l.drop (4 * (l.length / 4))))
theorem St32.make {g : Nat} {seed : BitVec 32} {l : List UInt8} {w : World} {n k : Nat} {buf : List UInt8} {s : BitVec 32} (d : Dig w g 116 k (.slice (some ⟨g, 2, none⟩) n 16) buf seed (.iface 114 (.pointer (some ⟨g, 0, none⟩))) [.int .u32 (un s)])
    (hk : k = l.length) (hn : n = l.length - 4 * (l.length / 4)) (hs : s = st32 l seed (l.length / 4)) (hr : buf.take n = l.drop (4 * (l.length / 4))) : St32 g seed l w := by
  subst hk hn hs
  exact ⟨_, _, _, d, .inr ⟨rfl, rfl, hr⟩⟩
theorem St32.keep {g : Nat} {seed : BitVec 32} {l : List UInt8} {w w' : World} (s : St32 g seed l w) (hw : w'.heap[g]? = w.heap[g]?) : St32 g seed l w' := by
  obtain ⟨A, tc, buf, d, h⟩ := s
  exact ⟨A, tc, buf, d.keep hw, h⟩
theorem write32 (g : Nat) (seed : BitVec 32) (l : List UInt8) (a : Option Addr) (len cap : Nat) (q : List UInt8) (w : World) (s : St32 g seed l w)
    (hb : Far g w a q) (hl : q.length = len) (hc : len ≤ cap) (hm : cap ≤ 9223372036854775807) (hn : l.length + len ≤ 9223372036854775807) :
   Calls Try.prog 98 #[.pointer (some ⟨g, 0, none⟩), .slice a len cap] w fun e w' => e = .returned (.tuple #[.int .i64 (len : Int), .nilIface]) ∧ Only g w w' ∧ St32 g seed (l ++ q) w' := by
  obtain ⟨A, tc, buf, d, hA⟩ := s
  have er : (l.drop (4 * (l.length / 4))).length = l.length - 4 * (l.length / 4) := by simp
  have em := more32 l q seed
  have et := rest32 l q
  have ea : (l ++ q).length = l.length + len := by simp [hl]
  rcases Nat.eq_zero_or_pos (l.length - 4 * (l.length / 4)) with h0 | h0
  · rw [h0] at d
    have e0 : l.drop (4 * (l.length / 4)) = [] := List.length_eq_zero_iff.1 (by omega)
    rw [e0, List.nil_append, hl] at em et
    refine (write32_a g l.length A tc buf seed _ a len cap q w d hb hl hc hm hn).mono ?_
    rintro e w' ⟨rfl, o, buf', d', hr⟩
    exact ⟨rfl, o, St32.make d' ea.symm (by omega) em.symm (by rw [et]; exact hr)⟩
  · obtain ⟨rfl, rfl, hb'⟩ : A = some ⟨g, 2, none⟩ ∧ tc = 16 ∧ buf.take (l.length - 4 * (l.length / 4)) = l.drop (4 * (l.length / 4)) := by
      rcases hA with ⟨_, rfl⟩ | h
      · simp at h0
      · exact h
    generalize ht : l.length - 4 * (l.length / 4) = t at d h0 hb' er
    generalize hR : l.drop (4 * (l.length / 4)) = r at hb' er em et
    generalize hS : st32 l seed (l.length / 4) = s at d em
    subst hb'
    by_cases hx : t + len ≤ 4
    · refine (write32_c g l.length t buf seed s a len cap q w h0 hx d hb hl hn).mono ?_
      rintro e w' ⟨rfl, o, buf', d', hr⟩
      have e1 : (buf.take t ++ q).length = t + len := by rw [List.length_append, er, hl]
      rw [e1] at em et
      exact ⟨rfl, o, St32.make d' ea.symm (by omega) em.symm (by rw [et]; exact hr)⟩
    · obtain ⟨f, hf⟩ : ∃ f, t + f = 4 := ⟨4 - t, by omega⟩
      refine (write32_b g l.length t f buf seed s a len cap q w h0 hf (by omega) d hb hl hc hm hn).mono ?_
      rintro e w' ⟨rfl, o, buf', d', hr⟩
      have eo := one32 (buf.take t) q s f (by rw [er]; exact hf) (by omega)
      have eo' := oner32 (buf.take t) q f (by rw [er]; exact hf) (by omega)
      have ed : (q.drop f).length = len - f := by rw [List.length_drop, hl]
      rw [ed] at eo eo'
      exact ⟨rfl, o, St32.make d' ea.symm (by omega) (by rw [em, eo]) (by rw [et, eo']; exact hr)⟩
end Go.Proofs.Ytfnejnoldonfeaa
