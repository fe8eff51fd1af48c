/-
  laws.zzFits1; the cells of what is told; == and != of two sums in a quiet walk.
  Conditions: the slices lie in memory, all small.
-/
import Derived.Test.YtfnejnoldonfeaaLaws12
namespace Go.Proofs.Ytfnejnoldonfeaa
open Go.RowKit BigFrame
/-- The slices together are small. -/
structure Sm (L : List Sl) (n : Nat) : Prop where
  hn : L.length = n
  hnn : n ≤ 1048576
  htot : (pre L n).length ≤ 1048576
theorem Sm.pre_le {L : List Sl} {n : Nat} (s : Sm L n) (k : Nat) (hk : k ≤ n) : (pre L k).length ≤ 1048576 := by
  have h := Ytfnejnoldonfeaa.pre_le L k (n - k)
  rw [show k + (n - k) = n from by omega] at h
  exact Nat.le_trans h s.htot
theorem Sm.one {L : List Sl} {n : Nat} {w : World} {P : Option Addr} (s : Sm L n) (h : Ls w P L) (k : Nat) (hk : k < L.length) : (pre L k).length + (L[k]).len ≤ 1048576 := by
  have h1 := s.pre_le (k + 1) (by have := s.hn; omega)
  rw [pre_succ L k hk, List.length_append, (h.2 _ (List.getElem_mem hk)).hl] at h1
  exact h1
/-- Slice number k, as the walk reads it. -/
theorem Ls.get {L : List Sl} {w w' : World} {P : Option Addr} (h : Ls w P L) (hb : Below w.heap.size w w') (k : Nat) (hk : k < L.length) : ∃ b off, P = some ⟨b, off, none⟩ ∧ w'.cell? ⟨b, off + k, none⟩ = some (.slice (L[k]).a (L[k]).len (L[k]).cap) := by
  obtain ⟨b, off, rfl, hc⟩ := h.1.resolve_left (by intro e; rw [e] at hk; exact Nat.not_lt_zero _ hk)
  exact ⟨b, off, rfl, (hb.cell (p := ⟨b, off + k, none⟩) (cell_in (hc k hk))).trans (hc k hk)⟩
theorem fits_any (P : Option Addr) (n c : Nat) (L : List Sl) (w : World) (h : Ls w P L) (s : Sm L n) : Calls Try.prog 32 #[.slice P n c] w fun e w' => e = .returned (.bool true) ∧ w' = w := by
  have H := Lib.hid h
  have S := Lib.hid s
  have hnn := s.hnn
  clear h s
  go_enter Try.func32, Try.ntmps32
  go_wp2_with fail
  go_loopw [10] (fun i wr => ∃ k : Nat, k ≤ n ∧ i = .int .i64 k ∧ wr = w) (fun i _ => n - (intOf i).toNat)
  case atStart => exact ⟨0, Nat.zero_le _, rfl, rfl⟩
  case round =>
    obtain ⟨k, hk, rfl, rfl⟩ := hrel
    by_cases hlt : k < n
    · have hkL : k < L.length := by rw [S.out.hn]; exact hlt
      have h1 := S.out.one H.out k hkL
      obtain ⟨b, off, rfl, hc⟩ := H.out.get (Below.refl _ _) k hkL
      generalize L[k] = sl at h1 hc
      go_wp2_with fail
      exact ⟨⟨k + 1, by omega, by go_num, trivial⟩, by simp [intOf]; omega⟩
    · go_wp2_with fail
      go_ret
      exact ⟨rfl, rfl⟩
theorem tcs_len (L : List Sl) (seed : BitVec 32) (m : Nat) : (tcs L seed m).length = 4 * m := by
  induction m with
  | zero => rfl
  | succ m ih => rw [tcs_succ, List.length_append, ih]; simp [tc4]; omega
theorem tcs_at (L : List Sl) (seed : BitVec 32) (m k t : Nat) (hk : k < m) (ht : t < 4) : (tcs L seed m)[4 * k + t]? = (tc4 (pre L k) seed)[t]? := by
  induction m with
  | zero => omega
  | succ m ih =>
    rw [tcs_succ]
    by_cases h : k < m
    · rw [List.getElem?_append_left (by rw [tcs_len]; omega)]; exact ih h
    · have : k = m := by omega
      subst this
      rw [List.getElem?_append_right (by rw [tcs_len]; omega), tcs_len]
      congr 1; omega
theorem wpQuiet_neq38 {ops : Array Oper} {C : World → Prop} {Q : Act → Prop} {rest : List Oper} {o : Oper} {ac : Act} (hw : Region.wanted o (yielded ops ac.tmps) = true) (x y : Operand) (rt : TypeId) (ho : o.op = .binOp .neq 38 x y rt)
    (a a' : BitVec 32) (b b' c c' d d' : BitVec 64) (hx : ac.eval x = sums4 a b c d) (hy : ac.eval y = sums4 a' b' c' d') (u : Value) (hu : .bool (!(a == a' && (b == b' && (c == c' && d == d')))) = u)
    (hk : wpQuiet Try.prog ops C Q rest (ac.put o.dst u)) : wpQuiet Try.prog ops C Q (o :: rest) ac := by
  refine wpQuiet_step fun K hK => ?_
  rw [if_pos hw]
  refine ⟨u, fun w _ => ?_, hK _ hk⟩
  subst hu
  unfold Oper.quietAt execOp
  simp only [ho, Sem.run_bind, hx, hy, guard_sums, neq_sums, Result.andThen_ok, Sem.run_pure]
  exact ⟨rfl, rfl⟩
end Go.Proofs.Ytfnejnoldonfeaa
