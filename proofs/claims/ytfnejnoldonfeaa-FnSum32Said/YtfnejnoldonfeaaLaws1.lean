/-
  The laws FnSum32 and FnSeeds as walks: they return true.
  Conditions: each slice's bytes lie in memory as 'Bs' says.
-/
import Derived.Test.YtfnejnoldonfeaaS32
namespace Go.Proofs.Ytfnejnoldonfeaa
open Go.RowKit

theorem fnSum32_any (a : Option Addr) (len cap : Nat) (l : List UInt8) (seed : BitVec 32) (w : World) (hb : Bs w a l) (hl : l.length = len) (hc : len ≤ cap) (hm : cap ≤ 9223372036854775807) :
   Calls Try.prog 5 #[.slice a len cap, .int .u32 (un seed)] w fun e w' => e = .returned (.bool true) ∧ Below w.heap.size w w' := by
  have Hl := Lib.hid hl
  clear hl
  by_cases hbig : 2147483647 < len
  · go_enter Try.func5, Try.ntmps5
    go_wp2_with fail
    go_ret
    exact ⟨rfl, Below.refl _ _⟩
  · go_enter Try.func5, Try.ntmps5
    go_wp2_with fail
    refine (impl32_any _ _ _ l _ _ hb Hl.out hc hm).mono ?_
    rintro e w' ⟨rfl, n1, rfl⟩
    go_wp2_with fail
    refine (spec32_any _ _ _ l _ _ (hb.drewN _) Hl.out hc hm).mono ?_
    rintro e w' ⟨rfl, n2, rfl⟩
    go_wp2_with fail
    refine (works_any _).mono ?_
    rintro e w' ⟨rfl, hw⟩
    go_wp2_with fail
    go_ret
    exact ⟨rfl, (below_drewN (Below.refl _ _) _).trans hw⟩
end Go.Proofs.Ytfnejnoldonfeaa
