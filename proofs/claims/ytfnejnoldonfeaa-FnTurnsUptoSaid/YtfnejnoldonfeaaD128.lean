/-
  What digest128.Sum128 returns.
  Conditions: the digest's fields lie in memory as said.
-/
import Derived.Test.YtfnejnoldonfeaaD128A
import Derived.Test.YtfnejnoldonfeaaD128B
import Derived.Test.YtfnejnoldonfeaaD128C
namespace Go.Proofs.Ytfnejnoldonfeaa
open Go.RowKit
theorem dsum128_any (g clen : Nat) (A : Option Addr) (t : List UInt8) (tl tc : Nat) (h1 h2 : BitVec 64) (w : World) (c0 : w.cell? ⟨g, 0, none⟩ = some (.int .i64 (clen : Int))) (c1 : w.cell? ⟨g, 1, none⟩ = some (.slice A tl tc))
    (c20 : w.cell? ⟨g, 20, none⟩ = some (.int .u64 (un h1))) (c21 : w.cell? ⟨g, 21, none⟩ = some (.int .u64 (un h2))) (hb : Bs w A t) (hl : t.length = tl) (ht : tl < 16) :
   Calls Try.prog 71 #[.pointer (some ⟨g, 0, none⟩)] w fun e w' => e = .returned (.tuple #[.int .u64 (un (fin128 (h1, h2) t clen).1), .int .u64 (un (fin128 (h1, h2) t clen).2)]) ∧ ∃ n, w' = w.drewN n := by
  subst hl
  rcases t with _ | ⟨x0, t⟩
  · exact sum128_at0 g clen A tc h1 h2 w c0 c1 c20 c21
  rcases t with _ | ⟨x1, t⟩
  · obtain ⟨b, off, rfl, hx⟩ := hb.resolve_left (by simp)
    exact sum128_at1 g clen b off tc h1 h2 x0 w c0 c1 c20 c21 (hx 0 (by simp))
  rcases t with _ | ⟨x2, t⟩
  · obtain ⟨b, off, rfl, hx⟩ := hb.resolve_left (by simp)
    exact sum128_at2 g clen b off tc h1 h2 x0 x1 w c0 c1 c20 c21 (hx 0 (by simp)) (hx 1 (by simp))
  rcases t with _ | ⟨x3, t⟩
  · obtain ⟨b, off, rfl, hx⟩ := hb.resolve_left (by simp)
    exact sum128_at3 g clen b off tc h1 h2 x0 x1 x2 w c0 c1 c20 c21 (hx 0 (by simp)) (hx 1 (by simp)) (hx 2 (by simp))
  rcases t with _ | ⟨x4, t⟩
  · obtain ⟨b, off, rfl, hx⟩ := hb.resolve_left (by simp)
    exact sum128_at4 g clen b off tc h1 h2 x0 x1 x2 x3 w c0 c1 c20 c21 (hx 0 (by simp)) (hx 1 (by simp)) (hx 2 (by simp)) (hx 3 (by simp))
  rcases t with _ | ⟨x5, t⟩
  · obtain ⟨b, off, rfl, hx⟩ := hb.resolve_left (by simp)
    exact sum128_at5 g clen b off tc h1 h2 x0 x1 x2 x3 x4 w c0 c1 c20 c21 (hx 0 (by simp)) (hx 1 (by simp)) (hx 2 (by simp)) (hx 3 (by simp)) (hx 4 (by simp))
  rcases t with _ | ⟨x6, t⟩
  · obtain ⟨b, off, rfl, hx⟩ := hb.resolve_left (by simp)
    exact sum128_at6 g clen b off tc h1 h2 x0 x1 x2 x3 x4 x5 w c0 c1 c20 c21 (hx 0 (by simp)) (hx 1 (by simp)) (hx 2 (by simp)) (hx 3 (by simp)) (hx 4 (by simp)) (hx 5 (by simp))
  rcases t with _ | ⟨x7, t⟩
  · obtain ⟨b, off, rfl, hx⟩ := hb.resolve_left (by simp)
    exact sum128_at7 g clen b off tc h1 h2 x0 x1 x2 x3 x4 x5 x6 w c0 c1 c20 c21 (hx 0 (by simp)) (hx 1 (by simp)) (hx 2 (by simp)) (hx 3 (by simp)) (hx 4 (by simp)) (hx 5 (by simp)) (hx 6 (by simp))
  rcases t with _ | ⟨x8, t⟩
  · obtain ⟨b, off, rfl, hx⟩ := hb.resolve_left (by simp)
    exact sum128_at8 g clen b off tc h1 h2 x0 x1 x2 x3 x4 x5 x6 x7 w c0 c1 c20 c21 (hx 0 (by simp)) (hx 1 (by simp)) (hx 2 (by simp)) (hx 3 (by simp)) (hx 4 (by simp)) (hx 5 (by simp)) (hx 6 (by simp)) (hx 7 (by simp))
  rcases t with _ | ⟨x9, t⟩
  · obtain ⟨b, off, rfl, hx⟩ := hb.resolve_left (by simp)
    exact sum128_at9 g clen b off tc h1 h2 x0 x1 x2 x3 x4 x5 x6 x7 x8 w c0 c1 c20 c21 (hx 0 (by simp)) (hx 1 (by simp)) (hx 2 (by simp)) (hx 3 (by simp)) (hx 4 (by simp)) (hx 5 (by simp)) (hx 6 (by simp)) (hx 7 (by simp)) (hx 8 (by simp))
  rcases t with _ | ⟨x10, t⟩
  · obtain ⟨b, off, rfl, hx⟩ := hb.resolve_left (by simp)
    exact sum128_at10 g clen b off tc h1 h2 x0 x1 x2 x3 x4 x5 x6 x7 x8 x9 w c0 c1 c20 c21 (hx 0 (by simp)) (hx 1 (by simp)) (hx 2 (by simp)) (hx 3 (by simp)) (hx 4 (by simp)) (hx 5 (by simp)) (hx 6 (by simp)) (hx 7 (by simp)) (hx 8 (by simp)) (hx 9 (by simp))
  rcases t with _ | ⟨x11, t⟩
  · obtain ⟨b, off, rfl, hx⟩ := hb.resolve_left (by simp)
    exact sum128_at11 g clen b off tc h1 h2 x0 x1 x2 x3 x4 x5 x6 x7 x8 x9 x10 w c0 c1 c20 c21 (hx 0 (by simp)) (hx 1 (by simp)) (hx 2 (by simp)) (hx 3 (by simp)) (hx 4 (by simp)) (hx 5 (by simp)) (hx 6 (by simp)) (hx 7 (by simp)) (hx 8 (by simp)) (hx 9 (by simp)) (hx 10 (by simp))
  rcases t with _ | ⟨x12, t⟩
  · obtain ⟨b, off, rfl, hx⟩ := hb.resolve_left (by simp)
    exact sum128_at12 g clen b off tc h1 h2 x0 x1 x2 x3 x4 x5 x6 x7 x8 x9 x10 x11 w c0 c1 c20 c21 (hx 0 (by simp)) (hx 1 (by simp)) (hx 2 (by simp)) (hx 3 (by simp)) (hx 4 (by simp)) (hx 5 (by simp)) (hx 6 (by simp)) (hx 7 (by simp)) (hx 8 (by simp)) (hx 9 (by simp)) (hx 10 (by simp)) (hx 11 (by simp))
  rcases t with _ | ⟨x13, t⟩
  · obtain ⟨b, off, rfl, hx⟩ := hb.resolve_left (by simp)
    exact sum128_at13 g clen b off tc h1 h2 x0 x1 x2 x3 x4 x5 x6 x7 x8 x9 x10 x11 x12 w c0 c1 c20 c21 (hx 0 (by simp)) (hx 1 (by simp)) (hx 2 (by simp)) (hx 3 (by simp)) (hx 4 (by simp)) (hx 5 (by simp)) (hx 6 (by simp)) (hx 7 (by simp)) (hx 8 (by simp)) (hx 9 (by simp)) (hx 10 (by simp)) (hx 11 (by simp)) (hx 12 (by simp))
  rcases t with _ | ⟨x14, t⟩
  · obtain ⟨b, off, rfl, hx⟩ := hb.resolve_left (by simp)
    exact sum128_at14 g clen b off tc h1 h2 x0 x1 x2 x3 x4 x5 x6 x7 x8 x9 x10 x11 x12 x13 w c0 c1 c20 c21 (hx 0 (by simp)) (hx 1 (by simp)) (hx 2 (by simp)) (hx 3 (by simp)) (hx 4 (by simp)) (hx 5 (by simp)) (hx 6 (by simp)) (hx 7 (by simp)) (hx 8 (by simp)) (hx 9 (by simp)) (hx 10 (by simp)) (hx 11 (by simp)) (hx 12 (by simp)) (hx 13 (by simp))
  rcases t with _ | ⟨x15, t⟩
  · obtain ⟨b, off, rfl, hx⟩ := hb.resolve_left (by simp)
    exact sum128_at15 g clen b off tc h1 h2 x0 x1 x2 x3 x4 x5 x6 x7 x8 x9 x10 x11 x12 x13 x14 w c0 c1 c20 c21 (hx 0 (by simp)) (hx 1 (by simp)) (hx 2 (by simp)) (hx 3 (by simp)) (hx 4 (by simp)) (hx 5 (by simp)) (hx 6 (by simp)) (hx 7 (by simp)) (hx 8 (by simp)) (hx 9 (by simp)) (hx 10 (by simp)) (hx 11 (by simp)) (hx 12 (by simp)) (hx 13 (by simp)) (hx 14 (by simp))
  · simp at ht; omega
end Go.Proofs.Ytfnejnoldonfeaa
