/-
  The laws FnSum128 and FnBlock as walks: they return true.
  Conditions: each slice's bytes lie in memory as 'Bs' says.
-/
import Derived.Test.YtfnejnoldonfeaaI128
import Derived.Test.YtfnejnoldonfeaaS128
import Derived.Test.YtfnejnoldonfeaaChg
import Derived.Test.YtfnejnoldonfeaaLaws2
namespace Go.Proofs.Ytfnejnoldonfeaa
open Go.RowKit
theorem fnSum128_any (a : Option Addr) (len cap : Nat) (l : List UInt8) (seed : BitVec 32) (w : World) (hb : Bs w a l) (hl : l.length = len) (hc : len ≤ cap) (hm : cap ≤ 9223372036854775807) :
   Calls Try.prog 9 #[.slice a len cap, .int .u32 (un seed)] w fun e w' => e = .returned (.bool true) ∧ Below w.heap.size w w' := by
  have Hl := Lib.hid hl
  clear hl
  by_cases hbig : 2147483647 < len
  · go_enter Try.func9, Try.ntmps9
    go_wp2_with fail
    go_ret
    exact ⟨rfl, Below.refl _ _⟩
  · go_enter Try.func9, Try.ntmps9
    go_wp2_with fail
    refine (impl128_any _ _ _ l _ _ hb Hl.out hc hm).mono ?_
    rintro e w1 ⟨rfl, hb1⟩
    go_wp2_with fail
    refine (spec128_any _ _ _ l _ _ (hb.mem hb1) Hl.out hc hm).mono ?_
    rintro e w' ⟨rfl, n2, rfl⟩
    go_wp2_with fail
    refine (works_any _).mono ?_
    rintro e w' ⟨rfl, hw⟩
    go_wp2_with fail
    go_ret
    exact ⟨rfl, (below_drewN hb1 _).trans (hw.mono (by simpa using hb1.size))⟩
set_option maxRecDepth 100000 in
theorem fnBlock_any (a : Option Addr) (len cap : Nat) (l : List UInt8) (seed : BitVec 32) (n : Int) (p : Option Addr) (plen pcap : Nat) (q : List UInt8) (w : World)
    (hb : Bs w a l) (hl : l.length = len) (hc : len ≤ cap) (hm : cap ≤ 9223372036854775807) (_lo : -9223372036854775808 ≤ n) (_hi : n ≤ 9223372036854775807)
    (hp : Bs w p q) (hq : q.length = plen) (_hpc : plen ≤ pcap) (_hpm : pcap ≤ 9223372036854775807) :
   Calls Try.prog 7 #[.slice a len cap, .int .u32 (un seed), .int .i64 n, .slice p plen pcap] w fun e w' => e = .returned (.bool true) ∧ Below w.heap.size w w' := by
  have Hl := Lib.hid hl
  have Hq := Lib.hid hq
  clear hl hq
  by_cases hbig : 2147483647 < len
  · go_enter Try.func7, Try.ntmps7
    go_wp2_with fail
    go_ret
    exact ⟨rfl, Below.refl _ _⟩
  · by_cases hbig2 : 2147483647 < plen
    · go_enter Try.func7, Try.ntmps7
      go_wp2_with fail
      go_ret
      exact ⟨rfl, Below.refl _ _⟩
    · go_enter Try.func7, Try.ntmps7
      go_wp2_with fail
      refine (changed16_any a len cap l n p plen pcap q _ hb Hl.out (by omega) hp Hq.out (by omega)).mono ?_
      rintro e w1 ⟨a', cap', l', j, rfl, hown, ha0, ha1, hbel⟩
      have hle := hown.le
      have Hown := Lib.hid hown
      have key : l = l' ∨ (un (sum128 l seed).1 == un (sum128 l' seed).1) = false ∨ ((un (sum128 l seed).1 == un (sum128 l' seed).1) = true ∧ (un (sum128 l seed).2 == un (sum128 l' seed).2) = false) := by
        by_cases h : l = l'
        · exact .inl h
        · right
          have hne : ¬ sum128 l seed = sum128 l' seed := fun e => h (sum128_block seed j (by rw [hown.1, Hl.out]) (by rw [Nat.mul_comm]; exact ha0) (by rw [Nat.mul_comm, Hl.out]; exact ha1) e)
          by_cases h1 : (sum128 l seed).1 = (sum128 l' seed).1
          · exact .inr ⟨by rw [h1]; simp, un_ne fun e => hne (Prod.ext h1 e)⟩
          · exact .inl (un_ne h1)
      have hll : l = l' ∨ (l == l') = false := by
        by_cases h : l = l'
        · exact .inl h
        · exact .inr (by simpa using h)
      have Hll := Lib.hid hll
      clear ha0 ha1 hown hll
      go_wp2_with fail
      refine (impl128_any _ _ _ l _ _ (hb.mem hbel) Hl.out hc hm).mono ?_
      rintro e w2 ⟨rfl, hb2⟩
      go_wp2_with fail
      refine (impl128_any _ _ _ l' _ _ (Hown.out.bs.mem hb2) Hown.out.1 hle.1 hle.2).mono ?_
      rintro e w3 ⟨rfl, hb3⟩
      have hb13 : Below w.heap.size w w3 := (hbel.trans (hb2.mono hbel.size)).trans (hb3.mono (Nat.le_trans hbel.size hb2.size))
      have hs1 := conv_str w3 a len cap l ((hb.mem hbel).mem (hb2.trans (hb3.mono hb2.size))) Hl.out
      have hs2 := conv_str w3 a' len cap' l' ((Hown.out.bs.mem hb2).mem hb3) Hown.out.1
      rcases key with rfl | h1 | ⟨h1, h2⟩
      · go_wp2_with fail
        refine (works_any _).mono ?_
        rintro e w' ⟨rfl, hw⟩
        go_wp2_with fail
        go_ret
        exact ⟨rfl, hb13.trans (hw.mono hb13.size)⟩
      · have h4 : (l == l') = false := Hll.out.resolve_left (by rintro rfl; simp at h1)
        go_wp2_with fail
        refine (works_any _).mono ?_
        rintro e w' ⟨rfl, hw⟩
        go_wp2_with fail
        go_ret
        exact ⟨rfl, hb13.trans (hw.mono hb13.size)⟩
      · have h4 : (l == l') = false := Hll.out.resolve_left (by rintro rfl; simp at h2)
        go_wp2_with fail
        refine (works_any _).mono ?_
        rintro e w' ⟨rfl, hw⟩
        go_wp2_with fail
        go_ret
        exact ⟨rfl, hb13.trans (hw.mono hb13.size)⟩
end Go.Proofs.Ytfnejnoldonfeaa
