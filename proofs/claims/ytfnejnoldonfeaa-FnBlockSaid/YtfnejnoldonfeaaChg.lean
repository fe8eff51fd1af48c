/-
  'changed': bytes in which some are other ones, within one block.
  Conditions: lengths of at most 2^31 - 1.
-/
import Derived.Test.YtfnejnoldonfeaaApp
import Derived.Test.YtfnejnoldonfeaaInv
namespace Go.Proofs.Ytfnejnoldonfeaa
open Go.RowKit
set_option maxRecDepth 100000 in
theorem changed4_any (a : Option Addr) (len cap : Nat) (l : List UInt8) (n : Int) (p : Option Addr) (plen pcap : Nat) (q : List UInt8) (w : World)
    (hb : Bs w a l) (hl : l.length = len) (hlen : len ≤ 2147483647) (hp : Bs w p q) (hq : q.length = plen) (hplen : plen ≤ 2147483647) :
   Calls Try.prog 24 #[.slice a len cap, .int .i64 4, .int .i64 n, .slice p plen pcap] w fun e w' =>
     ∃ a' cap' l' j, e = .returned (.slice a' len cap') ∧ Own w' w.heap.size a' len cap' l' ∧ Agree l l' 0 (j * 4) ∧ Agree l l' (j * 4 + 4) len ∧ Below w.heap.size w w' := by
  have Hl := Lib.hid hl
  have Hq := Lib.hid hq
  clear hl hq
  go_enter Try.func24, Try.ntmps24
  go_wp2_with (at_builtin; refine wpList_app _ rfl _ _ rfl w.heap.size none 0 0 [] rfl (Own.nil w _) a len cap l rfl hb Hl.out (by omega) (Nat.le_refl _) ?_; intro a' cap' w1 hown hg _)
  refine (place_any _ _ _ (by omega) (by omega)).mono ?_
  rintro e w' ⟨rfl, rfl⟩
  have hj0 := Int.emod_nonneg n (show (len : Int) / 4 + 1 ≠ 0 by omega)
  have hj1 := Int.emod_lt_of_pos n (show 0 < (len : Int) / 4 + 1 by omega)
  obtain ⟨j, hj⟩ := Int.eq_ofNat_of_zero_le hj0
  rw [hj]
  rw [hj] at hj1
  clear hj hj0
  have hbel : Below w.heap.size w w1 := own_grown (Own.nil w _) (Nat.le_refl _) hg
  simp only [Nat.zero_add, List.nil_append] at hown ⊢
  clear hg
  go_wp2_with fail
  go_loopw [26] (fun i wr => ∃ (k : Nat) (l' : List UInt8), k ≤ plen ∧ i = .int .i64 k ∧ Own wr w.heap.size a' len cap' l' ∧ Agree l l' 0 (j * 4) ∧ Agree l l' (j * 4 + 4) len ∧ Below w.heap.size w wr) (fun i _ => plen - (intOf i).toNat)
  case atStart => exact ⟨0, l, Nat.zero_le _, rfl, hown, fun _ _ _ => rfl, fun _ _ _ => rfl, hbel⟩
  case round =>
    obtain ⟨k, l', hk, rfl, hown', hag0, hag1, hbel'⟩ := hrel
    clear hown hbel
    by_cases hlt : k < plen
    · obtain ⟨b, off, rfl, hx⟩ := (hp.mem hbel').resolve_left (by intro h; have := Hq.out; simp [h] at this; omega)
      have h0 := hx k (by have := Hq.out; omega)
      have Hp := Lib.hid hp
      have Ha0 := Lib.hid hag0
      have Ha1 := Lib.hid hag1
      have Ho := Lib.hid hown'
      have Hb := Lib.hid hb
      have Hbel := Lib.hid hbel'
      have hle := hown'.le
      clear hx hp hag0 hag1 hown' hb hbel'
      generalize hg : q.getD k 0 = x at *
      clear hg
      by_cases hin : k < 4 ∧ j * 4 + k < len
      · obtain ⟨hin1, hin2⟩ := hin
        obtain ⟨g, rfl, hg0, hg1, hfz⟩ := Ho.out.form (by omega)
        have hfz := hfz (j * 4 + k)
        have hc : wr.cell? ⟨g, j * 4 + k, none⟩ = some (bc (l'.getD (j * 4 + k) 0)) := by
          obtain ⟨b2, off2, e2, hx2⟩ := Ho.out.bs.resolve_left (by intro h; have := Ho.out.1; simp [h] at this; omega)
          injection e2 with e2
          injection e2 with e2 e3
          subst e2 e3
          have := hx2 (j * 4 + k) (by have := Ho.out.1; omega)
          rw [Nat.zero_add] at this; exact this
        unfold bc at hc
        go_wp2_with fail
        refine ⟨⟨k + 1, l'.set (j * 4 + k) x, by omega, by go_num, Ho.out.set _ _, ?_, ?_, Hbel.out.setCell hg0 _⟩, by simp [intOf]; omega⟩
        · intro i h1 h2
          rw [Ha0.out i h1 h2, List.getD_eq_getElem?_getD, List.getD_eq_getElem?_getD, List.getElem?_set_ne (by omega)]
        · intro i h1 h2
          rw [Ha1.out i h1 h2, List.getD_eq_getElem?_getD, List.getD_eq_getElem?_getD, List.getElem?_set_ne (by omega)]
      · by_cases hin1 : k < 4
        · have hin2 : ¬ (j * 4 + k < len) := fun h => hin ⟨hin1, h⟩
          clear hin
          go_wp2_with fail
          exact ⟨⟨k + 1, l', by omega, by go_num, Ho.out, Ha0.out, Ha1.out, Hbel.out⟩, by simp [intOf]; omega⟩
        · clear hin
          go_wp2_with fail
          exact ⟨⟨k + 1, l', by omega, by go_num, Ho.out, Ha0.out, Ha1.out, Hbel.out⟩, by simp [intOf]; omega⟩
    · go_wp2_with fail
      go_ret
      exact ⟨a', cap', l', j, rfl, hown', hag0, hag1, hbel'⟩
set_option maxRecDepth 100000 in
theorem changed16_any (a : Option Addr) (len cap : Nat) (l : List UInt8) (n : Int) (p : Option Addr) (plen pcap : Nat) (q : List UInt8) (w : World)
    (hb : Bs w a l) (hl : l.length = len) (hlen : len ≤ 2147483647) (hp : Bs w p q) (hq : q.length = plen) (hplen : plen ≤ 2147483647) :
   Calls Try.prog 24 #[.slice a len cap, .int .i64 16, .int .i64 n, .slice p plen pcap] w fun e w' =>
     ∃ a' cap' l' j, e = .returned (.slice a' len cap') ∧ Own w' w.heap.size a' len cap' l' ∧ Agree l l' 0 (j * 16) ∧ Agree l l' (j * 16 + 16) len ∧ Below w.heap.size w w' := by
  have Hl := Lib.hid hl
  have Hq := Lib.hid hq
  clear hl hq
  go_enter Try.func24, Try.ntmps24
  go_wp2_with (at_builtin; refine wpList_app _ rfl _ _ rfl w.heap.size none 0 0 [] rfl (Own.nil w _) a len cap l rfl hb Hl.out (by omega) (Nat.le_refl _) ?_; intro a' cap' w1 hown hg _)
  refine (place_any _ _ _ (by omega) (by omega)).mono ?_
  rintro e w' ⟨rfl, rfl⟩
  have hj0 := Int.emod_nonneg n (show (len : Int) / 16 + 1 ≠ 0 by omega)
  have hj1 := Int.emod_lt_of_pos n (show 0 < (len : Int) / 16 + 1 by omega)
  obtain ⟨j, hj⟩ := Int.eq_ofNat_of_zero_le hj0
  rw [hj]
  rw [hj] at hj1
  clear hj hj0
  have hbel : Below w.heap.size w w1 := own_grown (Own.nil w _) (Nat.le_refl _) hg
  simp only [Nat.zero_add, List.nil_append] at hown ⊢
  clear hg
  go_wp2_with fail
  go_loopw [26] (fun i wr => ∃ (k : Nat) (l' : List UInt8), k ≤ plen ∧ i = .int .i64 k ∧ Own wr w.heap.size a' len cap' l' ∧ Agree l l' 0 (j * 16) ∧ Agree l l' (j * 16 + 16) len ∧ Below w.heap.size w wr) (fun i _ => plen - (intOf i).toNat)
  case atStart => exact ⟨0, l, Nat.zero_le _, rfl, hown, fun _ _ _ => rfl, fun _ _ _ => rfl, hbel⟩
  case round =>
    obtain ⟨k, l', hk, rfl, hown', hag0, hag1, hbel'⟩ := hrel
    clear hown hbel
    by_cases hlt : k < plen
    · obtain ⟨b, off, rfl, hx⟩ := (hp.mem hbel').resolve_left (by intro h; have := Hq.out; simp [h] at this; omega)
      have h0 := hx k (by have := Hq.out; omega)
      have Hp := Lib.hid hp
      have Ha0 := Lib.hid hag0
      have Ha1 := Lib.hid hag1
      have Ho := Lib.hid hown'
      have Hb := Lib.hid hb
      have Hbel := Lib.hid hbel'
      have hle := hown'.le
      clear hx hp hag0 hag1 hown' hb hbel'
      generalize hg : q.getD k 0 = x at *
      clear hg
      by_cases hin : k < 16 ∧ j * 16 + k < len
      · obtain ⟨hin1, hin2⟩ := hin
        obtain ⟨g, rfl, hg0, hg1, hfz⟩ := Ho.out.form (by omega)
        have hfz := hfz (j * 16 + k)
        have hc : wr.cell? ⟨g, j * 16 + k, none⟩ = some (bc (l'.getD (j * 16 + k) 0)) := by
          obtain ⟨b2, off2, e2, hx2⟩ := Ho.out.bs.resolve_left (by intro h; have := Ho.out.1; simp [h] at this; omega)
          injection e2 with e2
          injection e2 with e2 e3
          subst e2 e3
          have := hx2 (j * 16 + k) (by have := Ho.out.1; omega)
          rw [Nat.zero_add] at this; exact this
        unfold bc at hc
        go_wp2_with fail
        refine ⟨⟨k + 1, l'.set (j * 16 + k) x, by omega, by go_num, Ho.out.set _ _, ?_, ?_, Hbel.out.setCell hg0 _⟩, by simp [intOf]; omega⟩
        · intro i h1 h2
          rw [Ha0.out i h1 h2, List.getD_eq_getElem?_getD, List.getD_eq_getElem?_getD, List.getElem?_set_ne (by omega)]
        · intro i h1 h2
          rw [Ha1.out i h1 h2, List.getD_eq_getElem?_getD, List.getD_eq_getElem?_getD, List.getElem?_set_ne (by omega)]
      · by_cases hin1 : k < 16
        · have hin2 : ¬ (j * 16 + k < len) := fun h => hin ⟨hin1, h⟩
          clear hin
          go_wp2_with fail
          exact ⟨⟨k + 1, l', by omega, by go_num, Ho.out, Ha0.out, Ha1.out, Hbel.out⟩, by simp [intOf]; omega⟩
        · clear hin
          go_wp2_with fail
          exact ⟨⟨k + 1, l', by omega, by go_num, Ho.out, Ha0.out, Ha1.out, Hbel.out⟩, by simp [intOf]; omega⟩
    · go_wp2_with fail
      go_ret
      exact ⟨a', cap', l', j, rfl, hown', hag0, hag1, hbel'⟩
end Go.Proofs.Ytfnejnoldonfeaa
