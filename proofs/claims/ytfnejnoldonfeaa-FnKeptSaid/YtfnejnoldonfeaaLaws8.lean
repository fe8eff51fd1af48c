/-
  The law FnKept as a walk: it returns true.
  Conditions: each slice's bytes lie in memory as 'Bs' says.
-/
import Derived.Test.YtfnejnoldonfeaaLaws7
import Derived.Test.YtfnejnoldonfeaaEqw
namespace Go.Proofs.Ytfnejnoldonfeaa
open Go.RowKit
set_option maxRecDepth 100000 in
theorem fnKept_any (a : Option Addr) (len cap : Nat) (l : List UInt8) (seed : BitVec 32) (w : World) (hb : Bs w a l) (hl : l.length = len) (hc : len ≤ cap) (hm : cap ≤ 9223372036854775807) :
   Calls Try.prog 10 #[.slice a len cap, .int .u32 (un seed)] w fun e w' => e = .returned (.bool true) ∧ Below w.heap.size w w' := by
  have Hl := Lib.hid hl
  clear hl
  by_cases hbig : 2147483647 < len
  · go_enter Try.func10, Try.ntmps10
    go_wp2_with fail
    go_ret
    exact ⟨rfl, Below.refl _ _⟩
  · have hs1 := conv_str w a len cap l hb Hl.out
    go_enter Try.func10, Try.ntmps10
    go_wp2_with fail
    refine (impl32_any _ _ _ l _ _ hb Hl.out hc hm).mono ?_
    rintro e w0 ⟨rfl, n1, rfl⟩
    go_wp2_with fail
    refine (impl128_any _ _ _ l _ _ (hb.drewN _) Hl.out hc hm).mono ?_
    rintro e w1 ⟨rfl, hb1⟩
    have hb1 := (below_drewN (Below.refl w.heap.size w) n1).trans hb1
    go_wp2_with fail
    refine (impl64_any _ _ _ l _ _ (hb.mem hb1) Hl.out hc hm).mono ?_
    rintro e w2 ⟨rfl, hb2⟩
    have hb2 := hb1.trans (hb2.mono hb1.size)
    have hs2 := conv_str w2 a len cap l (hb.mem hb2) Hl.out
    clear hs1
    go_wp2_with fail
    refine (told_any _ _ _ l _ _ (hb.mem hb2) Hl.out hc hm).mono ?_
    rintro e w3 ⟨rfl, hb3⟩
    have hb3 := hb2.trans (hb3.mono hb2.size)
    clear hs2
    go_wp2_with (refine wpList_eql38 (by rfl) _ _ _ rfl _ _ _ _ _ _ _ _ rfl rfl ?_)
    refine (works_any _).mono ?_
    rintro e w' ⟨rfl, hw⟩
    go_wp2_with fail
    go_ret
    exact ⟨rfl, hb3.trans (hw.mono hb3.size)⟩
end Go.Proofs.Ytfnejnoldonfeaa
