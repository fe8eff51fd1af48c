/-
  FnSummed: the statement's second form (what it reads is of bulk at most 1048576), out of the walk 'fnSummed_any'.
  Conditions: none. (Began as the kit's proof-skeleton and its toy of the second form.)
-/
import Derived.Test.YtfnejnoldonfeaaRws
import Derived.Test.YtfnejnoldonfeaaLaws19
namespace Go.Proofs.Ytfnejnoldonfeaa.fnSummed
open Go.ChangeShapes Go.WideShapes Go.ChangeAt Go.RowKit

set_option maxRecDepth 100000 in
theorem lifted (os : Os) (started : os.Started) (H : Type) (enc : TypeId × Value → H) (F : Stop.Interp) :
    ReturnsInHanded {} Try.checked os 19 .any ((Rows.OpenSpec.upto Rows.fnSummedSpec).pre6 enc Try.prog Try.f19 Rows.fnSummedUptoRow.domain false) (((Rows.OpenSpec.upto Rows.fnSummedSpec).at F).post enc Try.prog Try.f19 false true false false) := by
  refine returnsInHanded_of_cond (C := Try.checked) (s := Rows.OpenSpec.upto Rows.fnSummedSpec) (k := Rows.uptoSmall) rfl own started (by kernel_rfl) Try.func19
    (OpenSpec.witness (enc := enc) (C := Try.checked) (s := Rows.OpenSpec.upto Rows.fnSummedSpec) (k := Rows.uptoSmall) rfl false ⟨#[], #[.int .u32 0, .slice none 0 0], []⟩ 8 (by kernel_rfl) (by kernel_rfl) (by kernel_rfl)
      (x := ([.lit (.int .u32 0), .nil], [], [])) (by kernel_rfl) rfl (by kernel_rfl)) ?_
  intro W base args ds gs before hval0 hW _ hk _
  have hval : ∀ (j : Nat) t v, Try.f19.params[j]? = some t → args[j]? = some v → Value.okWide Try.prog W .any base t v := hval0
  have hW' := hW
  obtain ⟨p, q, hA0, hV, rfl, hfz, hnd⟩ := hW
  have hA : DataW.TrodAll enc Try.prog W 0 (fun _ => true) true Try.f19.params.toList args.toList ds p := hA0
  rw [Try.params19] at hA hval
  obtain ⟨v0, vs0, d0, ds0, p0, q0, hargs, rfl, rfl, h0, r0⟩ := trodAll_cons hA
  obtain ⟨v1, vs1, d1, ds1, p1, q1, rfl, rfl, rfl, h1, r1⟩ := trodAll_cons r0
  obtain ⟨rfl, rfl, rfl⟩ := trodAll_nil r1
  obtain rfl : args = #[v0, v1] := by cases args; simp_all
  obtain ⟨rfl, rfl⟩ := trodVars_none hV
  obtain ⟨a0, rfl, rfl, rfl, w0⟩ := open_int Try.underlying23 (hval 0 23 v0 rfl rfl) h0
  obtain ⟨a1, len1, cap1, rfl⟩ := okWide_slice Try.underlying44 (hval 1 44 v1 rfl rfl)
  have k1 := h1
  have lt1 : ∀ x ∈ p1, x.block < W.heap.size := by obtain ⟨m, hm⟩ := k1; exact DataW.trod_lt m _ _ _ hm
  have hbulk : Rows.uptoBulkAll ([DataW.lit (.int .u32 a0), d1] ++ []) ≤ 1048576 := of_decide_eq_true hk
  obtain ⟨x0, rfl⟩ := word32 w0
  obtain ⟨L1, hL1, sL1⟩ := open_rows h1 (Nat.le_trans (bulk_part (by simp)) hbulk)
  clear hA0 hval0
  refine (fnSummed_any x0 a1 len1 cap1 L1 W hL1 sL1).mono fun e W' ⟨he, bel⟩ => ?_
  subst he
  exact ⟨_, rfl, _, _, _, [], _, [], hW', trodAll_mk1 (shut_bool Try.underlying4 _), (trodAll_cons_mk (shut_int Try.underlying23 w0) (trodAll_cons_mk (Below.trod laidOut (by kernel_rfl) (of_decide_eq_true (by kernel_rfl)) k1 bel lt1) trodAll_mk0)), rfl, bel.frame _, fun h => by cases h⟩

theorem over : Rows.fnSummedUptoRow.holds Try.pinned (Rows.OpenSpec.upto Rows.fnSummedSpec) :=
  OpenClaim.holds_of_cond 19 Try.f19 rfl rfl rfl rfl rfl rfl rfl ⟨rfl, rfl, rfl, rfl, rfl⟩ rfl rfl rfl rfl rfl (by kernel_rfl) Try.func19 (by kernel_rfl)
    (of_decide_eq_true (by kernel_rfl)) (by unfold Func.isWrapper; first | (rw [if_pos (by decide +kernel)]; kernel_rfl) | (rw [if_neg (by decide +kernel)]; exact ⟨rfl, rfl⟩))
    (fun os started H enc _ F => lifted os started H enc F)

theorem proved : Rows.FnSummedUptoSaid := over
end Go.Proofs.Ytfnejnoldonfeaa.fnSummed
