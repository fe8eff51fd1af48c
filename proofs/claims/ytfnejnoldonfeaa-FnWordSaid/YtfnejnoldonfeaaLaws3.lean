/-
  The law FnWord as a walk: it returns true.
  Conditions: each slice's bytes lie in memory as 'Bs' says.
-/
import Derived.Test.YtfnejnoldonfeaaS32
import Derived.Test.YtfnejnoldonfeaaChg
import Derived.Test.YtfnejnoldonfeaaLaws2
import Derived.Deep.RegionWith
namespace Go.Proofs.Ytfnejnoldonfeaa
open Go.RowKit BigFrame

set_option maxRecDepth 100000 in
theorem fnWord_any (a : Option Addr) (len cap : Nat) (l : List UInt8) (seed : BitVec 32) (n : Int) (p : Option Addr) (plen pcap : Nat) (q : List UInt8) (w : World)
    (hb : Bs w a l) (hl : l.length = len) (hc : len ≤ cap) (hm : cap ≤ 9223372036854775807) (_lo : -9223372036854775808 ≤ n) (_hi : n ≤ 9223372036854775807)
    (hp : Bs w p q) (hq : q.length = plen) (_hpc : plen ≤ pcap) (_hpm : pcap ≤ 9223372036854775807) :
   Calls Try.prog 6 #[.slice a len cap, .int .u32 (un seed), .int .i64 n, .slice p plen pcap] w fun e w' => e = .returned (.bool true) ∧ Below w.heap.size w w' := by
  have Hl := Lib.hid hl
  have Hq := Lib.hid hq
  clear hl hq
  by_cases hbig : 2147483647 < len
  · go_enter Try.func6, Try.ntmps6
    go_wp2_with fail
    go_ret
    exact ⟨rfl, Below.refl _ _⟩
  · by_cases hbig2 : 2147483647 < plen
    · go_enter Try.func6, Try.ntmps6
      go_wp2_with fail
      go_ret
      exact ⟨rfl, Below.refl _ _⟩
    · go_enter Try.func6, Try.ntmps6
      go_wp2_with fail
      refine (changed4_any a len cap l n p plen pcap q _ hb Hl.out (by omega) hp Hq.out (by omega)).mono ?_
      rintro e w1 ⟨a', cap', l', j, rfl, hown, ha0, ha1, hbel⟩
      have hle := hown.le
      have hbx : ∀ x : Ext w1, Bs x.at a l := fun x => (hb.mem hbel).mem x.below
      have hbx' : ∀ x : Ext w1, Bs x.at a' l' := fun x => hown.bs.mem x.below
      have hs1 : ∀ x : Ext w1, (convert 22 9 (.slice a len cap)).run Try.prog x.at = .ok (.string (str l)) x.at := fun x => conv_str _ _ _ _ _ (hbx x) Hl.out
      have hs2 : ∀ x : Ext w1, (convert 22 9 (.slice a' len cap')).run Try.prog x.at = .ok (.string (str l')) x.at := fun x => conv_str _ _ _ _ _ (hbx' x) hown.1
      by_cases hll : l = l'
      · have h3 : (un (sum32 l seed) == un (sum32 l' seed)) = true := by rw [hll]; simp
        have h4 : (l == l') = true := by rw [hll]; simp
        have Hbx := Lib.hid hbx
        have Hbx' := Lib.hid hbx'
        have Hown := Lib.hid hown
        clear hbx hbx' ha0 ha1 hll hown
        go_wp2_with fail
        refine wp_region_ext (by kernel_rfl) (by kernel_rfl) ?_
        repeat go_big_quiet_step ((first
          | (go_at_call_of 21 (Value.slice a len cap); exact Calls.ext_of_drewN (impl32_any a len cap l seed _ (Hbx.out _) Hl.out hc hm))
          | (go_at_call_of 21 (Value.slice a' len cap'); exact Calls.ext_of_drewN (impl32_any a' len cap' l' seed _ (Hbx'.out _) Hown.out.1 hle.1 hle.2))
          | (go_at_call 22; exact Calls.ext_of_below (works_any _))))
        refine wpQuiet_nil ?_
        rintro _ ⟨x, rfl⟩
        have hxb := x.below
        go_wp2_with fail
        go_ret
        exact ⟨rfl, hbel.trans (hxb.mono hbel.size)⟩
      · have h3 : (un (sum32 l seed) == un (sum32 l' seed)) = false := un_ne fun e => hll (sum32_word seed j (by rw [hown.1, Hl.out]) (by rw [Nat.mul_comm]; exact ha0) (by rw [Nat.mul_comm, Hl.out]; exact ha1) e)
        have h4 : (l == l') = false := by simpa using hll
        have Hbx := Lib.hid hbx
        have Hbx' := Lib.hid hbx'
        have Hown := Lib.hid hown
        clear hbx hbx' ha0 ha1 hll hown
        go_wp2_with fail
        refine wp_region_ext (by kernel_rfl) (by kernel_rfl) ?_
        repeat go_big_quiet_step ((first
          | (go_at_call_of 21 (Value.slice a len cap); exact Calls.ext_of_drewN (impl32_any a len cap l seed _ (Hbx.out _) Hl.out hc hm))
          | (go_at_call_of 21 (Value.slice a' len cap'); exact Calls.ext_of_drewN (impl32_any a' len cap' l' seed _ (Hbx'.out _) Hown.out.1 hle.1 hle.2))
          | (go_at_call 22; exact Calls.ext_of_below (works_any _))))
        refine wpQuiet_nil ?_
        rintro _ ⟨x, rfl⟩
        have hxb := x.below
        go_wp2_with fail
        go_ret
        exact ⟨rfl, hbel.trans (hxb.mono hbel.size)⟩
end Go.Proofs.Ytfnejnoldonfeaa
