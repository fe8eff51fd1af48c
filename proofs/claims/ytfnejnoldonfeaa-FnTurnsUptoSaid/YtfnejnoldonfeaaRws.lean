/-
  From a row's slice of slices of bytes to the walks' words ('Ls', 'Sm'); what the bound of the second form gives.
  Conditions: the reading's bulk is at most the bound.
-/
import Derived.Test.YtfnejnoldonfeaaFrame
import Derived.Test.YtfnejnoldonfeaaFit
import Derived.Deep.Matrix
import Derived.JoinedCond
namespace Go.Proofs.Ytfnejnoldonfeaa
open Go.ChangeShapes Go.WideShapes Go.ChangeAt Go.RowKit

theorem bulk_pos {H : Type} (d : DataW H) : 1 ≤ Rows.uptoBulk d := by
  cases d with
  | lit l => cases l <;> simp [Rows.uptoBulk]
  | _ => simp [Rows.uptoBulk]
theorem bulk_len {H : Type} (l : List (DataW H)) : l.length ≤ Rows.uptoBulkAll l := by
  induction l with
  | nil => simp [Rows.uptoBulkAll]
  | cons x r ih => have := bulk_pos x; simp only [Rows.uptoBulkAll, List.length_cons]; omega
theorem bulk_part {H : Type} {d : DataW H} {l : List (DataW H)} (h : d ∈ l) : Rows.uptoBulk d ≤ Rows.uptoBulkAll l := by
  induction l with
  | nil => cases h
  | cons x r ih =>
    simp only [Rows.uptoBulkAll]
    rcases List.mem_cons.1 h with rfl | e
    · omega
    · have := ih e; omega
theorem bulk_rows {H : Type} (f : Nat → Sl) (g : Nat → DataW H) (l : List Nat) (h : ∀ r ∈ l, (f r).l.length ≤ Rows.uptoBulk (g r)) :
    (((l.map f).map Sl.l).flatten).length ≤ Rows.uptoBulkAll (l.map g) := by
  induction l with
  | nil => simp
  | cons x l ih =>
    have h1 := h x (by simp)
    have h2 := ih fun r hr => h r (by simp [hr])
    simp only [List.map_cons, List.flatten_cons, List.length_append, Rows.uptoBulkAll]
    omega
theorem open_rows {H : Type} {enc : TypeId × Value → H} {W : World} {a : Option Addr} {len cap : Nat} {d : DataW H} {p : List MemPlace} (h : DataW.Trod enc Try.prog W 0 (fun _ => true) true 44 (.slice a len cap) d p) (hs : Rows.uptoBulk d ≤ 1048576) :
    ∃ L, Ls W a L ∧ Sm L len := by
  obtain ⟨fuel, hf⟩ := h
  rcases Deep.open_int_rows Try.underlying44 Try.underlying22 Try.underlying5 (by kernel_rfl) (by kernel_rfl) hf with ⟨hcs, _⟩ | ⟨A0, l, c, A, L, C, Z, hcs, _, hl, hm, hx, hrows⟩
  · simp [Value.cells] at hcs
    obtain ⟨rfl, rfl, rfl⟩ := hcs
    exact ⟨[], ⟨.inl rfl, fun _ h => by cases h⟩, rfl, by decide, by decide⟩
  · simp [Value.cells] at hcs
    obtain ⟨rfl, rfl, rfl⟩ := hcs
    simp only [Prod.mk.injEq] at hx
    obtain ⟨rfl, _⟩ := hx
    have each : ∀ r, r < cap → ∃ q : List UInt8, q.length = L r ∧ Bs W (A r) q ∧ L r ≤ C r ∧ C r ≤ 9223372036854775807 := fun r hr => by
      obtain ⟨h1, h2, h3, h4, h5, h6, h7⟩ := hrows r hr
      refine row_bytes (zs := Z r) ?_
      cases hA : A r with
      | none =>
        have h0 := h6 hA
        exact .inl ⟨rfl, by omega, h0, List.length_eq_zero_iff.1 (by omega)⟩
      | some a' => exact .inr ⟨a', rfl, h2, h3, h4, fun i hi => (h7 a' hA).2 i (by omega), h5⟩
    obtain ⟨q, hq⟩ := Deep.choose_lt each
    obtain ⟨b, off, spot⟩ := A0
    have hbig := bulk_len ((List.range len).map fun r => Deep.intRow (H := H) .u8 (A r) (L r) (Z r))
    have hrow := bulk_rows (H := H) (fun r => (⟨A r, L r, C r, q r⟩ : Sl)) (fun r => Deep.intRow .u8 (A r) (L r) (Z r)) (List.range len) (fun r hr => by
      have hr' := List.mem_range.1 hr
      obtain ⟨h1, h2, h3, h4, h5, h6, h7⟩ := hrows r (by omega)
      show (q r).length ≤ _
      rw [(hq r (by omega)).1]
      cases hA : A r with
      | none => have := h6 hA; omega
      | some a' =>
        have h8 := bulk_len (H := H) (lits .u8 ((Z r).take (L r)))
        have h9 : (lits (H := H) .u8 ((Z r).take (L r))).length = L r := by simp [lits]; omega
        simp only [Deep.intRow, Rows.uptoBulk]
        omega)
    simp only [Rows.uptoBulk] at hs
    simp only [List.length_map, List.length_range] at hbig
    refine ⟨(List.range len).map fun r => ⟨A r, L r, C r, q r⟩, ⟨?_, fun s hs => ?_⟩, by simp, by omega, ?_⟩
    · by_cases h0 : len = 0
      · subst h0; exact .inl rfl
      · have hspot : spot = none := by simpa [Addr.add] using World.cell?_spot (hrows 0 (by omega)).1
        subst hspot
        refine .inr ⟨b, off, rfl, fun i hi => ?_⟩
        have hi' : i < len := by simpa using hi
        have := (hrows i (by omega)).1
        rw [Addr.add_mk] at this
        rw [this]; simp [Sl.v]
    · obtain ⟨r, hr, rfl⟩ := List.mem_map.1 hs
      have hr' := List.mem_range.1 hr
      obtain ⟨h1, h2, h3, h4⟩ := hq r (by omega)
      exact ⟨h2, h1, h3, h4⟩
    · unfold pre
      rw [List.take_of_length_le (by simp)]
      omega
end Go.Proofs.Ytfnejnoldonfeaa
