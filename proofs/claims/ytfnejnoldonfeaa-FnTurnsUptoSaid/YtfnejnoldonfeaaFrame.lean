/-
  From a row's arguments (a slice of bytes, a number) to the walks' words ('Bs', 'un').
  Conditions: none. (Began as the kit's proof-skeleton.)
-/
import Derived.Test.YtfnejnoldonfeaaSlc
import Derived.Test.YtfnejnoldonfeaaRows
import Derived.ProofKit
import Derived.OpenShut
import Derived.ShutString
import Derived.ChangeOld
import Derived.Below
namespace Go.Proofs.Ytfnejnoldonfeaa
open Go.ChangeShapes Go.WideShapes Go.ChangeAt Go.RowKit

theorem own : ownKnob Try.prog.godebug = none := by kernel_rfl
theorem laidOut : laidOutB Try.prog = true := by kernel_rfl

/-- What the walk is told of a slice of integers that came in. -/
def IsRow (k : IntKind) (w : World) (a : Option Addr) (len cap : Nat) (zs : List Int) : Prop :=
  (a = none ∧ len = 0 ∧ cap = 0 ∧ zs = []) ∨
  ∃ x, a = some x ∧ len ≤ cap ∧ cap ≤ maxLen ∧ zs.length = cap ∧ (∀ i, i < zs.length → w.cell? (x.add i) = some (.int k (zs.getD i 0))) ∧ ∀ n ∈ zs, (Lit.int k n).wf = true

theorem wf_u8 {n : Int} (h : (Lit.int .u8 n).wf = true) : 0 ≤ n ∧ n < 256 := by
  simp [Lit.wf, IntKind.min, IntKind.max, IntKind.signed, IntKind.bits] at h; omega
theorem wf_u32 {n : Int} (h : (Lit.int .u32 n).wf = true) : 0 ≤ n ∧ n < 4294967296 := by
  simp [Lit.wf, IntKind.min, IntKind.max, IntKind.signed, IntKind.bits] at h; omega
theorem wf_u64 {n : Int} (h : (Lit.int .u64 n).wf = true) : 0 ≤ n ∧ n < 18446744073709551616 := by
  simp [Lit.wf, IntKind.min, IntKind.max, IntKind.signed, IntKind.bits] at h; omega
theorem wf_i64 {n : Int} (h : (Lit.int .i64 n).wf = true) : -9223372036854775808 ≤ n ∧ n ≤ 9223372036854775807 := by
  simp [Lit.wf, IntKind.min, IntKind.max, IntKind.signed, IntKind.bits] at h; omega
theorem word32 {n : Int} (h : (Lit.int .u32 n).wf = true) : ∃ x : BitVec 32, n = un x := by
  have := wf_u32 h
  refine ⟨BitVec.ofNat 32 n.toNat, ?_⟩
  unfold un; rw [BitVec.toNat_ofNat]; omega
theorem word64 {n : Int} (h : (Lit.int .u64 n).wf = true) : ∃ x : BitVec 64, n = un x := by
  have := wf_u64 h
  refine ⟨BitVec.ofNat 64 n.toNat, ?_⟩
  unfold un; rw [BitVec.toNat_ofNat]; omega

theorem row_bytes {w : World} {a : Option Addr} {len cap : Nat} {zs : List Int} (h : IsRow .u8 w a len cap zs) :
    ∃ l : List UInt8, l.length = len ∧ Bs w a l ∧ len ≤ cap ∧ cap ≤ 9223372036854775807 := by
  rcases h with ⟨rfl, rfl, rfl, rfl⟩ | ⟨x, rfl, hl, hm, hz, hcell, hwz⟩
  · exact ⟨[], rfl, .inl rfl, Nat.le_refl _, by omega⟩
  · refine ⟨(zs.take len).map fun n => UInt8.ofNat n.toNat, by simp; omega, ?_, hl, by unfold maxLen at hm; omega⟩
    by_cases h0 : len = 0
    · subst h0; exact .inl (by simp)
    · obtain ⟨b, off, spot⟩ := x
      have hc := hcell 0 (by omega)
      have hspot : spot = none := by simpa [Addr.add] using World.cell?_spot hc
      subst hspot
      refine .inr ⟨b, off, rfl, fun i hi => ?_⟩
      have hi' : i < len := by simp at hi; omega
      have hi2 : i < zs.length := by omega
      have h := hcell i hi2
      have hw := wf_u8 (hwz (zs.getD i 0) (by rw [List.getD_eq_getElem?_getD, List.getElem?_eq_getElem hi2]; exact List.getElem_mem hi2))
      have e : ((zs.take len).map fun n => UInt8.ofNat n.toNat).getD i 0 = UInt8.ofNat (zs.getD i 0).toNat := by
        simp [List.getD_eq_getElem?_getD, hi', List.getElem?_eq_getElem hi2]
      rw [e]
      have e2 : ((UInt8.ofNat (zs.getD i 0).toNat).toNat : Int) = zs.getD i 0 := by
        rw [UInt8.toNat_ofNat']; omega
      rw [e2, ← h]
      congr 1
      unfold Addr.add
      split <;> simp_all
end Go.Proofs.Ytfnejnoldonfeaa
