/-
  A region that draws its order, whose operations only read and whose calls make memory but leave what was there: one walk in the text's order.
  Conditions: none.
-/
import Derived.Test.YtfnejnoldonfeaaSlc
import Derived.Laws.BytesString
namespace Go.Proofs.Ytfnejnoldonfeaa
open Go.RowKit

/-- The worlds in which what lay in w lies as it did. -/
def Ext (w : World) : Type := {w' : World // Below w.heap.size w w'}
def Ext.at {w : World} (x : Ext w) : World := x.1
instance (w : World) : Nonempty (Ext w) := ⟨⟨w, Below.refl _ _⟩⟩
theorem Ext.below {w : World} (x : Ext w) : Below w.heap.size w x.at := x.2

theorem wp_region_ext {P : Program} {id : Nat} {Q : Exit → Act → World → Prop} {a : Act} {w : World} {l : List Oper} (hm : P.follows .mixedOrders = true) (hB : Region.lexB .any l.toArray = true)
    (h : wpQuiet P l.toArray (fun w' => ∃ x : Ext w, w' = x.at) (fun a' => ∀ w', (∃ x : Ext w, w' = x.at) → Q .normal a' w') l a) : (Code.region id l.toArray true).wp P Q a w :=
  wp_region_quiet (C := fun w' => ∃ x : Ext w, w' = x.at) hm hB ⟨⟨w.drewN 1, below_drewN (Below.refl _ _) 1⟩, rfl⟩ (by simpa using h)

theorem Calls.ext_of {P : Program} {f : FuncId} {args : Array Value} {w : World} {x : Ext w} {v : Value}
    (h : Calls P f args x.at fun e w' => e = .returned v ∧ Below w.heap.size x.at w') : Calls P f args x.at fun e w'' => e = .returned v ∧ ∃ y : Ext w, w'' = y.at :=
  h.mono fun _ w' ⟨he, hm⟩ => ⟨he, ⟨w', x.below.trans hm⟩, rfl⟩
theorem Calls.ext_of_drewN {P : Program} {f : FuncId} {args : Array Value} {w : World} {x : Ext w} {v : Value}
    (h : Calls P f args x.at fun e w' => e = .returned v ∧ ∃ n, w' = x.at.drewN n) : Calls P f args x.at fun e w'' => e = .returned v ∧ ∃ y : Ext w, w'' = y.at :=
  Calls.ext_of (h.mono fun _ _ ⟨he, n, hm⟩ => ⟨he, by rw [hm]; exact below_drewN (Below.refl _ _) n⟩)
theorem Calls.ext_of_below {P : Program} {f : FuncId} {args : Array Value} {w : World} {x : Ext w} {v : Value}
    (h : Calls P f args x.at fun e w' => e = .returned v ∧ Below x.at.heap.size x.at w') : Calls P f args x.at fun e w'' => e = .returned v ∧ ∃ y : Ext w, w'' = y.at :=
  Calls.ext_of (h.mono fun _ _ ⟨he, hm⟩ => ⟨he, hm.mono x.below.size⟩)

theorem cell_in {w : World} {a : Addr} {v : Value} (h : w.cell? a = some v) : a.block < w.heap.size := by
  rcases Nat.lt_or_ge a.block w.heap.size with h1 | h1
  · exact h1
  · unfold World.cell? at h
    rw [Array.getElem?_eq_none h1] at h
    cases h
theorem Bs.mem {w w' : World} {a : Option Addr} {l : List UInt8} (h : Bs w a l) (hw : Below w.heap.size w w') : Bs w' a l := by
  rcases h with rfl | ⟨b, off, rfl, h⟩
  · exact .inl rfl
  · exact .inr ⟨b, off, rfl, fun i hi => by rw [hw.cell (cell_in (h i hi))]; exact h i hi⟩

/-- The text of bytes. -/
def str (l : List UInt8) : ByteArray := ⟨l.toArray⟩
theorem Addr.add_mk (b off j : Nat) : Addr.add ⟨b, off, none⟩ j = ⟨b, off + j, none⟩ := by
  unfold Addr.add; split
  · subst_vars; rfl
  · rfl
theorem loadCells_bytes {P : Program} (w : World) (b off : Nat) (l : List UInt8) (h : ∀ i, i < l.length → w.cell? ⟨b, off + i, none⟩ = some (.int .u8 ((l.getD i 0).toNat : Int))) :
    (loadCells ⟨b, off, none⟩ l.length).run P w = .ok ((l.map fun x => (x.toNat : Int)).map (Value.int .u8)).toArray w := by
  have e := run_loadCells_list (P := P) (w := w) ⟨b, off, none⟩ ((l.map fun x => (x.toNat : Int)).map (Value.int .u8)) (fun j v hj => by
    rw [Addr.add_mk]
    have hlt : j < l.length := by
      rcases Nat.lt_or_ge j l.length with h1 | h1
      · exact h1
      · rw [List.getElem?_eq_none (by simpa using h1)] at hj; cases hj
    rw [h j hlt]
    rw [List.getD_eq_getElem?_getD, List.getElem?_eq_getElem hlt]
    simpa [List.getElem?_eq_getElem hlt] using hj)
  simpa using e
theorem foldl_str (l : List UInt8) (s : ByteArray) : (l.map fun x => (x.toNat : Int)).foldl (fun r n => r.push (UInt8.ofNat n.toNat)) s = ⟨s.data ++ l.toArray⟩ := by
  induction l generalizing s with
  | nil => simp
  | cons x l ih =>
    simp only [List.map_cons, List.foldl_cons]
    rw [ih]
    simp [ByteArray.push]
theorem conv_str (w : World) (a : Option Addr) (len cap : Nat) (l : List UInt8) (h : Bs w a l) (hl : l.length = len) :
    (convert 22 9 (.slice a len cap)).run Try.prog w = .ok (.string (str l)) w := by
  rw [run_convert_bytes_string w 22 9 5 a len cap Try.underlying22 Try.underlying5 Try.underlying9]
  rcases h with rfl | ⟨b, off, rfl, h⟩
  · subst hl
    cases a with
    | none => rfl
    | some a => rfl
  · subst hl
    rw [run_bytesToString w ⟨b, off, none⟩ l.length cap _ (loadCells_bytes w b off l h), foldl_str]
    simp [str, ByteArray.empty, ByteArray.emptyWithCapacity]
    rfl
theorem str_inj {l m : List UInt8} (h : str l = str m) : l = m := by
  unfold str at h
  injection h with h
  exact List.toArray_inj h
theorem str_eq (l m : List UInt8) : (str l == str m) = (l == m) := by
  show (l.toArray == m.toArray) = _
  simp
@[go_sem] theorem str_list (l : List UInt8) : (str l).toList = l := ByteArray.toList_mk l
end Go.Proofs.Ytfnejnoldonfeaa
