/-
  The law FnSeeds as a walk: it returns true.
  Conditions: each slice's bytes lie in memory as 'Bs' says.
-/
import Derived.Test.YtfnejnoldonfeaaS32
import Derived.Test.YtfnejnoldonfeaaInv
namespace Go.Proofs.Ytfnejnoldonfeaa
open Go.RowKit

theorem un_ne {n : Nat} {x y : BitVec n} (h : ¬ x = y) : (un x == un y) = false := beq_eq_false_iff_ne.2 fun e => h (un_inj e)
theorem fnSeeds_any (a : Option Addr) (len cap : Nat) (l : List UInt8) (seed other : BitVec 32) (w : World) (hb : Bs w a l) (hl : l.length = len) (hc : len ≤ cap) (hm : cap ≤ 9223372036854775807) :
   Calls Try.prog 4 #[.slice a len cap, .int .u32 (un seed), .int .u32 (un other)] w fun e w' => e = .returned (.bool true) ∧ Below w.heap.size w w' := by
  have Hl := Lib.hid hl
  clear hl
  by_cases hbig : 2147483647 < len
  · go_enter Try.func4, Try.ntmps4
    go_wp2_with fail
    go_ret
    exact ⟨rfl, Below.refl _ _⟩
  · by_cases hs : seed = other
    · subst hs
      go_enter Try.func4, Try.ntmps4
      go_wp2_with fail
      refine (impl32_any _ _ _ l _ _ hb Hl.out hc hm).mono ?_
      rintro e w' ⟨rfl, n1, rfl⟩
      go_wp2_with fail
      refine (impl32_any _ _ _ l _ _ (hb.drewN _) Hl.out hc hm).mono ?_
      rintro e w' ⟨rfl, n2, rfl⟩
      go_wp2_with fail
      refine (works_any _).mono ?_
      rintro e w' ⟨rfl, hw⟩
      go_wp2_with fail
      go_ret
      exact ⟨rfl, (below_drewN (Below.refl _ _) _).trans hw⟩
    · have h1 := un_ne hs
      have h2 := un_ne (fun e => hs (sum32_seed l seed other e))
      clear hs
      go_enter Try.func4, Try.ntmps4
      go_wp2_with fail
      refine (impl32_any _ _ _ l _ _ hb Hl.out hc hm).mono ?_
      rintro e w' ⟨rfl, n1, rfl⟩
      go_wp2_with fail
      refine (impl32_any _ _ _ l _ _ (hb.drewN _) Hl.out hc hm).mono ?_
      rintro e w' ⟨rfl, n2, rfl⟩
      go_wp2_with fail
      refine (works_any _).mono ?_
      rintro e w' ⟨rfl, hw⟩
      go_wp2_with fail
      go_ret
      exact ⟨rfl, (below_drewN (Below.refl _ _) _).trans hw⟩
end Go.Proofs.Ytfnejnoldonfeaa
