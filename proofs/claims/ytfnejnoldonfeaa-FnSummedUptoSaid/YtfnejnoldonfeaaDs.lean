/-
  Sum of each digest: the bytes of what it comes to, appended.
  Conditions: the digest lies in memory; what is appended to is nil, or a slice of the call's own.
-/
import Derived.Test.YtfnejnoldonfeaaH6
import Derived.Test.YtfnejnoldonfeaaForgeW
namespace Go.Proofs.Ytfnejnoldonfeaa
open Go.RowKit BigFrame

def be4 (x : BitVec 32) : List UInt8 := [by8 x 3, by8 x 2, by8 x 1, by8 x 0]
def be8 (x : BitVec 64) : List UInt8 := [by8 x 7, by8 x 6, by8 x 5, by8 x 4, by8 x 3, by8 x 2, by8 x 1, by8 x 0]
theorem Bs_list (w : World) (l : List UInt8) (cs : Array Value) (n : Nat) (hn : w.heap.size = n) (hc : cs = (l.map bc).toArray) : Bs (w.alloc (.cells cs 5)) (some ⟨n, 0, none⟩) l := by
  subst hn hc
  refine .inr ⟨_, _, rfl, fun i hi => ?_⟩
  rw [cell_of_row _ w.heap.size (0 + i) _ 5 (0, 0) (heap_alloc_new w _), Nat.zero_add, List.getElem?_toArray, List.getElem?_map, List.getElem?_eq_getElem hi, List.getD_eq_getElem?_getD, List.getElem?_eq_getElem hi]
  rfl
theorem byD {n : Nat} (x : BitVec n) (k : Nat) : un x / ((256 ^ k : Nat) : Int) % 256 = ((by8 x k).toNat : Int) := by
  unfold un by8
  rw [UInt8.toNat_ofNat']
  simp only [Nat.reducePow]
  omega
theorem byD0 {n : Nat} (x : BitVec n) : un x % 256 = ((by8 x 0).toNat : Int) := by have h := byD x 0; simpa using h
theorem byD1 {n : Nat} (x : BitVec n) : un x / 256 % 256 = ((by8 x 1).toNat : Int) := by have h := byD x 1; simpa using h
theorem byD2 {n : Nat} (x : BitVec n) : un x / 65536 % 256 = ((by8 x 2).toNat : Int) := by have h := byD x 2; simpa using h
theorem byD3 {n : Nat} (x : BitVec n) : un x / 16777216 % 256 = ((by8 x 3).toNat : Int) := by have h := byD x 3; simpa using h
theorem byD4 {n : Nat} (x : BitVec n) : un x / 4294967296 % 256 = ((by8 x 4).toNat : Int) := by have h := byD x 4; simpa using h
theorem byD5 {n : Nat} (x : BitVec n) : un x / 1099511627776 % 256 = ((by8 x 5).toNat : Int) := by have h := byD x 5; simpa using h
theorem byD6 {n : Nat} (x : BitVec n) : un x / 281474976710656 % 256 = ((by8 x 6).toNat : Int) := by have h := byD x 6; simpa using h
theorem byD7 {n : Nat} (x : BitVec n) : un x / 72057594037927936 % 256 = ((by8 x 7).toNat : Int) := by have h := byD x 7; simpa using h
attribute [local go_sem] byD0 byD1 byD2 byD3 byD4 byD5 byD6 byD7
theorem sums32_any (g : Nat) (seed : BitVec 32) (l : List UInt8) (base : Nat) (A : Option Addr) (m c : Nat) (q : List UInt8) (w : World) (s : St32 g seed l w) (ho : Own w base A m c q) (hm : m ≤ 2147483647) (hbase : base ≤ w.heap.size) :
    Calls Try.prog 101 #[.pointer (some ⟨g, 0, none⟩), .slice A m c] w fun e w' => ∃ A' c', e = .returned (.slice A' (m + 4) c') ∧ Own w' base A' (m + 4) c' (q ++ be4 (sum32 l seed)) ∧ Below base w w' := by
  have S := Lib.hid s
  have Ho := Lib.hid ho
  clear s ho
  go_enter Try.func101, Try.ntmps101
  go_wp2_with fail
  refine (dsumSt32 g seed l _ S.out).mono ?_
  rintro e w1 ⟨rfl, n1, rfl⟩
  go_wp2_with (at_builtin; refine wpList_app _ rfl _ _ rfl base A m c q rfl ((Ho.out.drewN n1).below ((Below.refl _ _).alloc (Nat.le_refl _) _)) _ 4 4 (be4 (sum32 l seed)) rfl (Bs_list _ (be4 (sum32 l seed)) _ _ rfl rfl) rfl (by omega) (by simp; omega) ?_; intro a1 c1 w2 hown hg hblk)
  go_ret
  exact ⟨a1, c1, rfl, hown, ((below_drewN (Below.refl base w) n1).alloc hbase _).grown hg (by simp; omega) (fun k hk => by exact (Ho.out.lt k hk).1)⟩
set_option maxRecDepth 100000 in
set_option maxHeartbeats 1600000 in
theorem sums64_any (g : Nat) (seed : BitVec 32) (l : List UInt8) (base : Nat) (A : Option Addr) (m c : Nat) (q : List UInt8) (w : World) (s : St128 g seed l w) (ho : Own w base A m c q) (hm : m ≤ 2147483647) (hbase : base ≤ w.heap.size) :
    Calls Try.prog 105 #[.pointer (some ⟨g, 0, none⟩), .slice A m c] w fun e w' => ∃ A' c', e = .returned (.slice A' (m + 8) c') ∧ Own w' base A' (m + 8) c' (q ++ be8 (sum128 l seed).1) ∧ Below base w w' := by
  have S := Lib.hid s
  have Ho := Lib.hid ho
  clear s ho
  go_enter Try.func105, Try.ntmps105
  go_wp2_with fail
  refine (dsumSt64 g seed l _ S.out).mono ?_
  rintro e w1 ⟨rfl, n1, rfl⟩
  go_wp2_with (at_builtin; refine wpList_app _ rfl _ _ rfl base A m c q rfl ((Ho.out.drewN n1).below ((Below.refl _ _).alloc (Nat.le_refl _) _)) _ 8 8 (be8 (sum128 l seed).1) rfl (Bs_list _ (be8 (sum128 l seed).1) _ _ rfl rfl) rfl (by omega) (by simp; omega) ?_; intro a1 c1 w2 hown hg hblk)
  go_ret
  exact ⟨a1, c1, rfl, hown, ((below_drewN (Below.refl base w) n1).alloc hbase _).grown hg (by simp; omega) (fun k hk => by exact (Ho.out.lt k hk).1)⟩
set_option maxRecDepth 100000 in
set_option maxHeartbeats 1600000 in
theorem sums128_any (g : Nat) (seed : BitVec 32) (l : List UInt8) (base : Nat) (A : Option Addr) (m c : Nat) (q : List UInt8) (w : World) (s : St128 g seed l w) (ho : Own w base A m c q) (hm : m ≤ 2147483647) (hbase : base ≤ w.heap.size) :
    Calls Try.prog 97 #[.pointer (some ⟨g, 0, none⟩), .slice A m c] w fun e w' => ∃ A' c', e = .returned (.slice A' (m + 16) c') ∧ Own w' base A' (m + 16) c' (q ++ (be8 (sum128 l seed).1 ++ be8 (sum128 l seed).2)) ∧ Below base w w' := by
  have S := Lib.hid s
  have Ho := Lib.hid ho
  clear s ho
  go_enter Try.func97, Try.ntmps97
  go_wp2_with fail
  refine (dsumSt128 g seed l _ S.out).mono ?_
  rintro e w1 ⟨rfl, n1, rfl⟩
  go_wp2_with (at_builtin; refine wpList_app _ rfl _ _ rfl base A m c q rfl ((Ho.out.drewN n1).below ((Below.refl _ _).alloc (Nat.le_refl _) _)) _ 16 16 (be8 (sum128 l seed).1 ++ be8 (sum128 l seed).2) rfl (Bs_list _ (be8 (sum128 l seed).1 ++ be8 (sum128 l seed).2) _ _ rfl rfl) rfl (by omega) (by simp; omega) ?_; intro a1 c1 w2 hown hg hblk)
  go_ret
  exact ⟨a1, c1, rfl, hown, ((below_drewN (Below.refl base w) n1).alloc hbase _).grown hg (by simp; omega) (fun k hk => by exact (Ho.out.lt k hk).1)⟩
end Go.Proofs.Ytfnejnoldonfeaa
