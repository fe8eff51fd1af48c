/-
  FnTurns: the statement's second form (what it reads is of bulk at most 1048576), out of the walk 'fnTurns_any'.
  Conditions: none. (Began as the kit's proof-skeleton and its toy of the second form.)
-/
import Derived.Test.YtfnejnoldonfeaaRws
import Derived.Test.YtfnejnoldonfeaaLaws17
namespace Go.Proofs.Ytfnejnoldonfeaa.fnTurns
open Go.ChangeShapes Go.WideShapes Go.ChangeAt Go.RowKit

set_option maxRecDepth 100000 in
theorem lifted (os : Os) (started : os.Started) (H : Type) (enc : TypeId × Value → H) (F : Stop.Interp) :
    ReturnsInHanded {} Try.checked os 17 .any ((Rows.OpenSpec.upto Rows.fnTurnsSpec).pre6 enc Try.prog Try.f17 Rows.fnTurnsUptoRow.domain false) (((Rows.OpenSpec.upto Rows.fnTurnsSpec).at F).post enc Try.prog Try.f17 false true false false) := by
  refine returnsInHanded_of_cond (C := Try.checked) (s := Rows.OpenSpec.upto Rows.fnTurnsSpec) (k := Rows.uptoSmall) rfl own started (by kernel_rfl) Try.func17
    (OpenSpec.witness (enc := enc) (C := Try.checked) (s := Rows.OpenSpec.upto Rows.fnTurnsSpec) (k := Rows.uptoSmall) rfl false ⟨#[], #[.int .u32 0, .int .u32 0, .slice none 0 0, .slice none 0 0], []⟩ 8 (by kernel_rfl) (by kernel_rfl) (by kernel_rfl)
      (x := ([.lit (.int .u32 0), .lit (.int .u32 0), .nil, .nil], [], [])) (by kernel_rfl) rfl (by kernel_rfl)) ?_
  intro W base args ds gs before hval0 hW _ hk _
  have hval : ∀ (j : Nat) t v, Try.f17.params[j]? = some t → args[j]? = some v → Value.okWide Try.prog W .any base t v := hval0
  have hW' := hW
  obtain ⟨p, q, hA0, hV, rfl, hfz, hnd⟩ := hW
  have hA : DataW.TrodAll enc Try.prog W 0 (fun _ => true) true Try.f17.params.toList args.toList ds p := hA0
  rw [Try.params17] at hA hval
  obtain ⟨v0, vs0, d0, ds0, p0, q0, hargs, rfl, rfl, h0, r0⟩ := trodAll_cons hA
  obtain ⟨v1, vs1, d1, ds1, p1, q1, rfl, rfl, rfl, h1, r1⟩ := trodAll_cons r0
  obtain ⟨v2, vs2, d2, ds2, p2, q2, rfl, rfl, rfl, h2, r2⟩ := trodAll_cons r1
  obtain ⟨v3, vs3, d3, ds3, p3, q3, rfl, rfl, rfl, h3, r3⟩ := trodAll_cons r2
  obtain ⟨rfl, rfl, rfl⟩ := trodAll_nil r3
  obtain rfl : args = #[v0, v1, v2, v3] := by cases args; simp_all
  obtain ⟨rfl, rfl⟩ := trodVars_none hV
  obtain ⟨a0, rfl, rfl, rfl, w0⟩ := open_int Try.underlying23 (hval 0 23 v0 rfl rfl) h0
  obtain ⟨a1, rfl, rfl, rfl, w1⟩ := open_int Try.underlying23 (hval 1 23 v1 rfl rfl) h1
  obtain ⟨a2, len2, cap2, rfl⟩ := okWide_slice Try.underlying44 (hval 2 44 v2 rfl rfl)
  have k2 := h2
  have lt2 : ∀ x ∈ p2, x.block < W.heap.size := by obtain ⟨m, hm⟩ := k2; exact DataW.trod_lt m _ _ _ hm
  obtain ⟨a3, len3, cap3, rfl⟩ := okWide_slice Try.underlying44 (hval 3 44 v3 rfl rfl)
  have k3 := h3
  have lt3 : ∀ x ∈ p3, x.block < W.heap.size := by obtain ⟨m, hm⟩ := k3; exact DataW.trod_lt m _ _ _ hm
  have hbulk : Rows.uptoBulkAll ([DataW.lit (.int .u32 a0), DataW.lit (.int .u32 a1), d2, d3] ++ []) ≤ 1048576 := of_decide_eq_true hk
  obtain ⟨x0, rfl⟩ := word32 w0
  obtain ⟨x1, rfl⟩ := word32 w1
  obtain ⟨L2, hL2, sL2⟩ := open_rows h2 (Nat.le_trans (bulk_part (by simp)) hbulk)
  obtain ⟨L3, hL3, sL3⟩ := open_rows h3 (Nat.le_trans (bulk_part (by simp)) hbulk)
  clear hA0 hval0
  refine (fnTurns_any x0 x1 a2 len2 cap2 L2 a3 len3 cap3 L3 W hL2 sL2 hL3 sL3).mono fun e W' ⟨he, bel⟩ => ?_
  subst he
  exact ⟨_, rfl, _, _, _, [], _, [], hW', trodAll_mk1 (shut_bool Try.underlying4 _), (trodAll_cons_mk (shut_int Try.underlying23 w0) (trodAll_cons_mk (shut_int Try.underlying23 w1) (trodAll_cons_mk (Below.trod laidOut (by kernel_rfl) (of_decide_eq_true (by kernel_rfl)) k2 bel lt2) (trodAll_cons_mk (Below.trod laidOut (by kernel_rfl) (of_decide_eq_true (by kernel_rfl)) k3 bel lt3) trodAll_mk0)))), rfl, bel.frame _, fun h => by cases h⟩

theorem over : Rows.fnTurnsUptoRow.holds Try.pinned (Rows.OpenSpec.upto Rows.fnTurnsSpec) :=
  OpenClaim.holds_of_cond 17 Try.f17 rfl rfl rfl rfl rfl rfl rfl ⟨rfl, rfl, rfl, rfl, rfl⟩ rfl rfl rfl rfl rfl (by kernel_rfl) Try.func17 (by kernel_rfl)
    (of_decide_eq_true (by kernel_rfl)) (by unfold Func.isWrapper; first | (rw [if_pos (by decide +kernel)]; kernel_rfl) | (rw [if_neg (by decide +kernel)]; exact ⟨rfl, rfl⟩))
    (fun os started H enc _ F => lifted os started H enc F)

theorem proved : Rows.FnTurnsUptoSaid := over
end Go.Proofs.Ytfnejnoldonfeaa.fnTurns
