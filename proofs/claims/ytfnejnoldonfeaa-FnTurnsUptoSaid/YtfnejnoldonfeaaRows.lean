/-
  No cell of these rows narrows 'for every input' (looked for: loops, veiled, ifaces, maps, wideKeys, modest, calm, conditions, laid).
  DERIVED. THE GIVEN ROWS OF THIS SEAT. 17 by the template 'for every input the law returns true; each argument reads behind the call as it read before'; 0 by the template 'total and deterministic' (their statements: YtfnejnoldonfeaaTotals.lean).
  GIVEN WITH THE SEED: the statements are not yours to turn. If you find one false, say at which input.
  Laid BY PROGRAM, IN A SANDBOX (cutbox-rows.mjs): the forced cells as the released guide's own fill.sh prints them over the translation eec25a5ba9c9bb5d… (all of the seat's roots in one cut). By AI agents, Wed Nov 11 2026. No macro, syntax, notation, axiom, sorry.
-/
import Derived.Test.YtfnejnoldonfeaaChecked
import GoSem.Claim
import GoSem.ClaimJoined
import GoSem.ClaimMapViews
import Derived.JoinedTies
import Derived.KernelRfl
namespace Go.Proofs.Ytfnejnoldonfeaa
/- THE CELL 'sum', in the pinned program and in every row, IS THE sha256 OF THE DUMP (.gsa) THAT YtfnejnoldonfeaaProg.lean LOADS. Nothing in Lean hashes anything: it is a label: what it is worth is what the hold of that sum in a sandbox is worth. -/
noncomputable def Try.pinned : Pinned := { name := "ytfnejnoldonfeaa", sum := "eec25a5ba9c9bb5df5e343350b52bf4651ef40220404211299ebbb7314c0f606", checked := Try.checked }
namespace Rows
def none {H : Type} : Left H := { results := [], args := [] }

/-- 'laws.FnForged32': WHATEVER THE INPUT: true; the input reads as it did. -/
def fnForged32Spec : ChangeSpec := { name := "fnForged32", fn := fun _ => fun
  | [d1, d2, d3] => { results := [.lit (.bool true)], args := [d1, d2, d3] }
  | _ => none }
def fnForged32Row : OpenClaim := { program := "ytfnejnoldonfeaa", sum := "eec25a5ba9c9bb5df5e343350b52bf4651ef40220404211299ebbb7314c0f606", func := "murmurmill/laws.FnForged32", spec := "fnForged32", apart := false }
def FnForged32Said : Prop := fnForged32Row.holds Try.pinned (OpenSpec.ofChange fnForged32Spec)

/-- ITS FALSE NEIGHBOUR: 'it returns false'. Refute it at one input. -/
def fnForged32Wrong : ChangeSpec := { name := "fnForged32", fn := fun _ => fun
  | [d1, d2, d3] => { results := [.lit (.bool false)], args := [d1, d2, d3] }
  | _ => none }
def FnForged32WrongFalsely : Prop := fnForged32Row.holds Try.pinned (OpenSpec.ofChange fnForged32Wrong)

/-- 'laws.FnSeeds': WHATEVER THE INPUT: true; the input reads as it did. -/
def fnSeedsSpec : ChangeSpec := { name := "fnSeeds", fn := fun _ => fun
  | [d1, d2, d3] => { results := [.lit (.bool true)], args := [d1, d2, d3] }
  | _ => none }
def fnSeedsRow : OpenClaim := { program := "ytfnejnoldonfeaa", sum := "eec25a5ba9c9bb5df5e343350b52bf4651ef40220404211299ebbb7314c0f606", func := "murmurmill/laws.FnSeeds", spec := "fnSeeds", apart := false }
def FnSeedsSaid : Prop := fnSeedsRow.holds Try.pinned (OpenSpec.ofChange fnSeedsSpec)

/-- ITS FALSE NEIGHBOUR: 'it returns false'. Refute it at one input. -/
def fnSeedsWrong : ChangeSpec := { name := "fnSeeds", fn := fun _ => fun
  | [d1, d2, d3] => { results := [.lit (.bool false)], args := [d1, d2, d3] }
  | _ => none }
def FnSeedsWrongFalsely : Prop := fnSeedsRow.holds Try.pinned (OpenSpec.ofChange fnSeedsWrong)

/-- 'laws.FnSum32': WHATEVER THE INPUT: true; the input reads as it did. -/
def fnSum32Spec : ChangeSpec := { name := "fnSum32", fn := fun _ => fun
  | [d1, d2] => { results := [.lit (.bool true)], args := [d1, d2] }
  | _ => none }
def fnSum32Row : OpenClaim := { program := "ytfnejnoldonfeaa", sum := "eec25a5ba9c9bb5df5e343350b52bf4651ef40220404211299ebbb7314c0f606", func := "murmurmill/laws.FnSum32", spec := "fnSum32", apart := false }
def FnSum32Said : Prop := fnSum32Row.holds Try.pinned (OpenSpec.ofChange fnSum32Spec)

/-- ITS FALSE NEIGHBOUR: 'it returns false'. Refute it at one input. -/
def fnSum32Wrong : ChangeSpec := { name := "fnSum32", fn := fun _ => fun
  | [d1, d2] => { results := [.lit (.bool false)], args := [d1, d2] }
  | _ => none }
def FnSum32WrongFalsely : Prop := fnSum32Row.holds Try.pinned (OpenSpec.ofChange fnSum32Wrong)

/-- 'laws.FnWord': WHATEVER THE INPUT: true; the input reads as it did. -/
def fnWordSpec : ChangeSpec := { name := "fnWord", fn := fun _ => fun
  | [d1, d2, d3, d4] => { results := [.lit (.bool true)], args := [d1, d2, d3, d4] }
  | _ => none }
def fnWordRow : OpenClaim := { program := "ytfnejnoldonfeaa", sum := "eec25a5ba9c9bb5df5e343350b52bf4651ef40220404211299ebbb7314c0f606", func := "murmurmill/laws.FnWord", spec := "fnWord", apart := false }
def FnWordSaid : Prop := fnWordRow.holds Try.pinned (OpenSpec.ofChange fnWordSpec)

/-- ITS FALSE NEIGHBOUR: 'it returns false'. Refute it at one input. -/
def fnWordWrong : ChangeSpec := { name := "fnWord", fn := fun _ => fun
  | [d1, d2, d3, d4] => { results := [.lit (.bool false)], args := [d1, d2, d3, d4] }
  | _ => none }
def FnWordWrongFalsely : Prop := fnWordRow.holds Try.pinned (OpenSpec.ofChange fnWordWrong)

/-- 'laws.FnBlock': WHATEVER THE INPUT: true; the input reads as it did. -/
def fnBlockSpec : ChangeSpec := { name := "fnBlock", fn := fun _ => fun
  | [d1, d2, d3, d4] => { results := [.lit (.bool true)], args := [d1, d2, d3, d4] }
  | _ => none }
def fnBlockRow : OpenClaim := { program := "ytfnejnoldonfeaa", sum := "eec25a5ba9c9bb5df5e343350b52bf4651ef40220404211299ebbb7314c0f606", func := "murmurmill/laws.FnBlock", spec := "fnBlock", apart := false }
def FnBlockSaid : Prop := fnBlockRow.holds Try.pinned (OpenSpec.ofChange fnBlockSpec)

/-- ITS FALSE NEIGHBOUR: 'it returns false'. Refute it at one input. -/
def fnBlockWrong : ChangeSpec := { name := "fnBlock", fn := fun _ => fun
  | [d1, d2, d3, d4] => { results := [.lit (.bool false)], args := [d1, d2, d3, d4] }
  | _ => none }
def FnBlockWrongFalsely : Prop := fnBlockRow.holds Try.pinned (OpenSpec.ofChange fnBlockWrong)

/-- 'laws.FnForged128': WHATEVER THE INPUT: true; the input reads as it did. -/
def fnForged128Spec : ChangeSpec := { name := "fnForged128", fn := fun _ => fun
  | [d1, d2, d3, d4] => { results := [.lit (.bool true)], args := [d1, d2, d3, d4] }
  | _ => none }
def fnForged128Row : OpenClaim := { program := "ytfnejnoldonfeaa", sum := "eec25a5ba9c9bb5df5e343350b52bf4651ef40220404211299ebbb7314c0f606", func := "murmurmill/laws.FnForged128", spec := "fnForged128", apart := false }
def FnForged128Said : Prop := fnForged128Row.holds Try.pinned (OpenSpec.ofChange fnForged128Spec)

/-- ITS FALSE NEIGHBOUR: 'it returns false'. Refute it at one input. -/
def fnForged128Wrong : ChangeSpec := { name := "fnForged128", fn := fun _ => fun
  | [d1, d2, d3, d4] => { results := [.lit (.bool false)], args := [d1, d2, d3, d4] }
  | _ => none }
def FnForged128WrongFalsely : Prop := fnForged128Row.holds Try.pinned (OpenSpec.ofChange fnForged128Wrong)

/-- 'laws.FnSum128': WHATEVER THE INPUT: true; the input reads as it did. -/
def fnSum128Spec : ChangeSpec := { name := "fnSum128", fn := fun _ => fun
  | [d1, d2] => { results := [.lit (.bool true)], args := [d1, d2] }
  | _ => none }
def fnSum128Row : OpenClaim := { program := "ytfnejnoldonfeaa", sum := "eec25a5ba9c9bb5df5e343350b52bf4651ef40220404211299ebbb7314c0f606", func := "murmurmill/laws.FnSum128", spec := "fnSum128", apart := false }
def FnSum128Said : Prop := fnSum128Row.holds Try.pinned (OpenSpec.ofChange fnSum128Spec)

/-- ITS FALSE NEIGHBOUR: 'it returns false'. Refute it at one input. -/
def fnSum128Wrong : ChangeSpec := { name := "fnSum128", fn := fun _ => fun
  | [d1, d2] => { results := [.lit (.bool false)], args := [d1, d2] }
  | _ => none }
def FnSum128WrongFalsely : Prop := fnSum128Row.holds Try.pinned (OpenSpec.ofChange fnSum128Wrong)

/-- 'laws.FnKept': WHATEVER THE INPUT: true; the input reads as it did. -/
def fnKeptSpec : ChangeSpec := { name := "fnKept", fn := fun _ => fun
  | [d1, d2] => { results := [.lit (.bool true)], args := [d1, d2] }
  | _ => none }
def fnKeptRow : OpenClaim := { program := "ytfnejnoldonfeaa", sum := "eec25a5ba9c9bb5df5e343350b52bf4651ef40220404211299ebbb7314c0f606", func := "murmurmill/laws.FnKept", spec := "fnKept", apart := false }
def FnKeptSaid : Prop := fnKeptRow.holds Try.pinned (OpenSpec.ofChange fnKeptSpec)

/-- ITS FALSE NEIGHBOUR: 'it returns false'. Refute it at one input. -/
def fnKeptWrong : ChangeSpec := { name := "fnKept", fn := fun _ => fun
  | [d1, d2] => { results := [.lit (.bool false)], args := [d1, d2] }
  | _ => none }
def FnKeptWrongFalsely : Prop := fnKeptRow.holds Try.pinned (OpenSpec.ofChange fnKeptWrong)

/-- 'laws.FnSum64': WHATEVER THE INPUT: true; the input reads as it did. -/
def fnSum64Spec : ChangeSpec := { name := "fnSum64", fn := fun _ => fun
  | [d1, d2] => { results := [.lit (.bool true)], args := [d1, d2] }
  | _ => none }
def fnSum64Row : OpenClaim := { program := "ytfnejnoldonfeaa", sum := "eec25a5ba9c9bb5df5e343350b52bf4651ef40220404211299ebbb7314c0f606", func := "murmurmill/laws.FnSum64", spec := "fnSum64", apart := false }
def FnSum64Said : Prop := fnSum64Row.holds Try.pinned (OpenSpec.ofChange fnSum64Spec)

/-- ITS FALSE NEIGHBOUR: 'it returns false'. Refute it at one input. -/
def fnSum64Wrong : ChangeSpec := { name := "fnSum64", fn := fun _ => fun
  | [d1, d2] => { results := [.lit (.bool false)], args := [d1, d2] }
  | _ => none }
def FnSum64WrongFalsely : Prop := fnSum64Row.holds Try.pinned (OpenSpec.ofChange fnSum64Wrong)

/-- 'laws.FnSplit': WHATEVER THE INPUT: true; the input reads as it did. -/
def fnSplitSpec : ChangeSpec := { name := "fnSplit", fn := fun _ => fun
  | [d1, d2, d3, d4] => { results := [.lit (.bool true)], args := [d1, d2, d3, d4] }
  | _ => none }
def fnSplitRow : OpenClaim := { program := "ytfnejnoldonfeaa", sum := "eec25a5ba9c9bb5df5e343350b52bf4651ef40220404211299ebbb7314c0f606", func := "murmurmill/laws.FnSplit", spec := "fnSplit", unfollowed := true, recurses := true, apart := false }
def FnSplitSaid : Prop := fnSplitRow.holds Try.pinned (OpenSpec.ofChange fnSplitSpec)

/-- ITS FALSE NEIGHBOUR: 'it returns false'. Refute it at one input. -/
def fnSplitWrong : ChangeSpec := { name := "fnSplit", fn := fun _ => fun
  | [d1, d2, d3, d4] => { results := [.lit (.bool false)], args := [d1, d2, d3, d4] }
  | _ => none }
def FnSplitWrongFalsely : Prop := fnSplitRow.holds Try.pinned (OpenSpec.ofChange fnSplitWrong)

/-- 'laws.FnPieces': WHATEVER THE INPUT: true; the input reads as it did. -/
def fnPiecesSpec : ChangeSpec := { name := "fnPieces", fn := fun _ => fun
  | [d1, d2] => { results := [.lit (.bool true)], args := [d1, d2] }
  | _ => none }
def fnPiecesRow : OpenClaim := { program := "ytfnejnoldonfeaa", sum := "eec25a5ba9c9bb5df5e343350b52bf4651ef40220404211299ebbb7314c0f606", func := "murmurmill/laws.FnPieces", spec := "fnPieces", unfollowed := true, recurses := true, apart := false }
def FnPiecesSaid : Prop := fnPiecesRow.holds Try.pinned (OpenSpec.ofChange fnPiecesSpec)

/-- ITS FALSE NEIGHBOUR: 'it returns false'. Refute it at one input. -/
def fnPiecesWrong : ChangeSpec := { name := "fnPieces", fn := fun _ => fun
  | [d1, d2] => { results := [.lit (.bool false)], args := [d1, d2] }
  | _ => none }
def FnPiecesWrongFalsely : Prop := fnPiecesRow.holds Try.pinned (OpenSpec.ofChange fnPiecesWrong)

/-- 'laws.FnSizes': WHATEVER THE INPUT: true; the input reads as it did. -/
def fnSizesSpec : ChangeSpec := { name := "fnSizes", fn := fun _ => fun
  | [d1, d2] => { results := [.lit (.bool true)], args := [d1, d2] }
  | _ => none }
def fnSizesRow : OpenClaim := { program := "ytfnejnoldonfeaa", sum := "eec25a5ba9c9bb5df5e343350b52bf4651ef40220404211299ebbb7314c0f606", func := "murmurmill/laws.FnSizes", spec := "fnSizes", unfollowed := true, recurses := true, apart := false }
def FnSizesSaid : Prop := fnSizesRow.holds Try.pinned (OpenSpec.ofChange fnSizesSpec)

/-- ITS FALSE NEIGHBOUR: 'it returns false'. Refute it at one input. -/
def fnSizesWrong : ChangeSpec := { name := "fnSizes", fn := fun _ => fun
  | [d1, d2] => { results := [.lit (.bool false)], args := [d1, d2] }
  | _ => none }
def FnSizesWrongFalsely : Prop := fnSizesRow.holds Try.pinned (OpenSpec.ofChange fnSizesWrong)

/-- 'laws.FnAppended': WHATEVER THE INPUT: true; the input reads as it did. -/
def fnAppendedSpec : ChangeSpec := { name := "fnAppended", fn := fun _ => fun
  | [d1, d2, d3] => { results := [.lit (.bool true)], args := [d1, d2, d3] }
  | _ => none }
def fnAppendedRow : OpenClaim := { program := "ytfnejnoldonfeaa", sum := "eec25a5ba9c9bb5df5e343350b52bf4651ef40220404211299ebbb7314c0f606", func := "murmurmill/laws.FnAppended", spec := "fnAppended", unfollowed := true, recurses := true, apart := false }
def FnAppendedSaid : Prop := fnAppendedRow.holds Try.pinned (OpenSpec.ofChange fnAppendedSpec)

/-- ITS FALSE NEIGHBOUR: 'it returns false'. Refute it at one input. -/
def fnAppendedWrong : ChangeSpec := { name := "fnAppended", fn := fun _ => fun
  | [d1, d2, d3] => { results := [.lit (.bool false)], args := [d1, d2, d3] }
  | _ => none }
def FnAppendedWrongFalsely : Prop := fnAppendedRow.holds Try.pinned (OpenSpec.ofChange fnAppendedWrong)

/-- 'laws.FnBare': WHATEVER THE INPUT: true; the input reads as it did. -/
def fnBareSpec : ChangeSpec := { name := "fnBare", fn := fun _ => fun
  | [d] => { results := [.lit (.bool true)], args := [d] }
  | _ => none }
def fnBareRow : OpenClaim := { program := "ytfnejnoldonfeaa", sum := "eec25a5ba9c9bb5df5e343350b52bf4651ef40220404211299ebbb7314c0f606", func := "murmurmill/laws.FnBare", spec := "fnBare", unfollowed := true, recurses := true, apart := false }
def FnBareSaid : Prop := fnBareRow.holds Try.pinned (OpenSpec.ofChange fnBareSpec)

/-- ITS FALSE NEIGHBOUR: 'it returns false'. Refute it at one input. -/
def fnBareWrong : ChangeSpec := { name := "fnBare", fn := fun _ => fun
  | [d] => { results := [.lit (.bool false)], args := [d] }
  | _ => none }
def FnBareWrongFalsely : Prop := fnBareRow.holds Try.pinned (OpenSpec.ofChange fnBareWrong)

/-- 'laws.FnTurns': WHATEVER THE INPUT: true; the input reads as it did. -/
def fnTurnsSpec : ChangeSpec := { name := "fnTurns", fn := fun _ => fun
  | [d1, d2, d3, d4] => { results := [.lit (.bool true)], args := [d1, d2, d3, d4] }
  | _ => none }
def fnTurnsRow : OpenClaim := { program := "ytfnejnoldonfeaa", sum := "eec25a5ba9c9bb5df5e343350b52bf4651ef40220404211299ebbb7314c0f606", func := "murmurmill/laws.FnTurns", spec := "fnTurns", unfollowed := true, recurses := true, apart := false }
def FnTurnsSaid : Prop := fnTurnsRow.holds Try.pinned (OpenSpec.ofChange fnTurnsSpec)

/-- ITS FALSE NEIGHBOUR: 'it returns false'. Refute it at one input. -/
def fnTurnsWrong : ChangeSpec := { name := "fnTurns", fn := fun _ => fun
  | [d1, d2, d3, d4] => { results := [.lit (.bool false)], args := [d1, d2, d3, d4] }
  | _ => none }
def FnTurnsWrongFalsely : Prop := fnTurnsRow.holds Try.pinned (OpenSpec.ofChange fnTurnsWrong)

/-- 'laws.FnAgain': WHATEVER THE INPUT: true; the input reads as it did. -/
def fnAgainSpec : ChangeSpec := { name := "fnAgain", fn := fun _ => fun
  | [d1, d2, d3] => { results := [.lit (.bool true)], args := [d1, d2, d3] }
  | _ => none }
def fnAgainRow : OpenClaim := { program := "ytfnejnoldonfeaa", sum := "eec25a5ba9c9bb5df5e343350b52bf4651ef40220404211299ebbb7314c0f606", func := "murmurmill/laws.FnAgain", spec := "fnAgain", unfollowed := true, recurses := true, apart := false }
def FnAgainSaid : Prop := fnAgainRow.holds Try.pinned (OpenSpec.ofChange fnAgainSpec)

/-- ITS FALSE NEIGHBOUR: 'it returns false'. Refute it at one input. -/
def fnAgainWrong : ChangeSpec := { name := "fnAgain", fn := fun _ => fun
  | [d1, d2, d3] => { results := [.lit (.bool false)], args := [d1, d2, d3] }
  | _ => none }
def FnAgainWrongFalsely : Prop := fnAgainRow.holds Try.pinned (OpenSpec.ofChange fnAgainWrong)

/-- 'laws.FnSummed': WHATEVER THE INPUT: true; the input reads as it did. -/
def fnSummedSpec : ChangeSpec := { name := "fnSummed", fn := fun _ => fun
  | [d1, d2] => { results := [.lit (.bool true)], args := [d1, d2] }
  | _ => none }
def fnSummedRow : OpenClaim := { program := "ytfnejnoldonfeaa", sum := "eec25a5ba9c9bb5df5e343350b52bf4651ef40220404211299ebbb7314c0f606", func := "murmurmill/laws.FnSummed", spec := "fnSummed", unfollowed := true, recurses := true, apart := false }
def FnSummedSaid : Prop := fnSummedRow.holds Try.pinned (OpenSpec.ofChange fnSummedSpec)

/-- ITS FALSE NEIGHBOUR: 'it returns false'. Refute it at one input. -/
def fnSummedWrong : ChangeSpec := { name := "fnSummed", fn := fun _ => fun
  | [d1, d2] => { results := [.lit (.bool false)], args := [d1, d2] }
  | _ => none }
def FnSummedWrongFalsely : Prop := fnSummedRow.holds Try.pinned (OpenSpec.ofChange fnSummedWrong)

/- THE SECOND FORM. 'bulk': how many values and letters a reading holds, each counted each time it is reached (what is shared counts as often as it is met; a slice's spare places count too). A statement '..UptoSaid' is the law's where the arguments, and the package variables that the reading takes, are together of bulk at most 1048576: NARROWER than '..Said'. Prove '..Said' where nothing that the law and all that it calls make is longer than what came in: it says more and counts as full. Else prove '..UptoSaid'. A law counts once. -/
mutual
def uptoBulk {H : Type} : DataW H → Nat
  | .lit (.string bytes) => bytes.length + 1
  | .lit _ => 1
  | .nil => 1
  | .ptr d => uptoBulk d + 1
  | .slice elems spare => uptoBulkAll elems + uptoBulkAll spare + 1
  | .agg parts => uptoBulkAll parts + 1
  | .iface _ d => uptoBulk d + 1
  | .map entries => uptoBulkEntries entries + 1
  | .held _ => 1
def uptoBulkAll {H : Type} : List (DataW H) → Nat
  | [] => 0
  | d :: r => uptoBulk d + uptoBulkAll r
def uptoBulkEntries {H : Type} : List (Lit × DataW H) → Nat
  | [] => 0
  | x :: r => uptoBulkEntry x + uptoBulkEntries r
def uptoBulkEntry {H : Type} : Lit × DataW H → Nat
  | (.string bytes, d) => bytes.length + uptoBulk d + 1
  | (_, d) => uptoBulk d + 1
 end
def uptoSmall : (H : Type) → List (DataW H) → Bool := fun _ ds => decide (uptoBulkAll ds ≤ 1048576)
def OpenSpec.upto (s : _root_.Go.ChangeSpec) : _root_.Go.OpenSpec := { _root_.Go.OpenSpec.ofChange s with cond := some uptoSmall }

/-- 'laws.FnForged32', WHERE WHAT IT READS IS OF BULK AT MOST 1048576: true; the input reads as it did. -/
def fnForged32UptoRow : OpenClaim := { program := "ytfnejnoldonfeaa", sum := "eec25a5ba9c9bb5df5e343350b52bf4651ef40220404211299ebbb7314c0f606", func := "murmurmill/laws.FnForged32", spec := "fnForged32", apart := false, narrowed := true }
def FnForged32UptoSaid : Prop := fnForged32UptoRow.holds Try.pinned (OpenSpec.upto fnForged32Spec)

/-- 'laws.FnSeeds', WHERE WHAT IT READS IS OF BULK AT MOST 1048576: true; the input reads as it did. -/
def fnSeedsUptoRow : OpenClaim := { program := "ytfnejnoldonfeaa", sum := "eec25a5ba9c9bb5df5e343350b52bf4651ef40220404211299ebbb7314c0f606", func := "murmurmill/laws.FnSeeds", spec := "fnSeeds", apart := false, narrowed := true }
def FnSeedsUptoSaid : Prop := fnSeedsUptoRow.holds Try.pinned (OpenSpec.upto fnSeedsSpec)

/-- 'laws.FnSum32', WHERE WHAT IT READS IS OF BULK AT MOST 1048576: true; the input reads as it did. -/
def fnSum32UptoRow : OpenClaim := { program := "ytfnejnoldonfeaa", sum := "eec25a5ba9c9bb5df5e343350b52bf4651ef40220404211299ebbb7314c0f606", func := "murmurmill/laws.FnSum32", spec := "fnSum32", apart := false, narrowed := true }
def FnSum32UptoSaid : Prop := fnSum32UptoRow.holds Try.pinned (OpenSpec.upto fnSum32Spec)

/-- 'laws.FnWord', WHERE WHAT IT READS IS OF BULK AT MOST 1048576: true; the input reads as it did. -/
def fnWordUptoRow : OpenClaim := { program := "ytfnejnoldonfeaa", sum := "eec25a5ba9c9bb5df5e343350b52bf4651ef40220404211299ebbb7314c0f606", func := "murmurmill/laws.FnWord", spec := "fnWord", apart := false, narrowed := true }
def FnWordUptoSaid : Prop := fnWordUptoRow.holds Try.pinned (OpenSpec.upto fnWordSpec)

/-- 'laws.FnBlock', WHERE WHAT IT READS IS OF BULK AT MOST 1048576: true; the input reads as it did. -/
def fnBlockUptoRow : OpenClaim := { program := "ytfnejnoldonfeaa", sum := "eec25a5ba9c9bb5df5e343350b52bf4651ef40220404211299ebbb7314c0f606", func := "murmurmill/laws.FnBlock", spec := "fnBlock", apart := false, narrowed := true }
def FnBlockUptoSaid : Prop := fnBlockUptoRow.holds Try.pinned (OpenSpec.upto fnBlockSpec)

/-- 'laws.FnForged128', WHERE WHAT IT READS IS OF BULK AT MOST 1048576: true; the input reads as it did. -/
def fnForged128UptoRow : OpenClaim := { program := "ytfnejnoldonfeaa", sum := "eec25a5ba9c9bb5df5e343350b52bf4651ef40220404211299ebbb7314c0f606", func := "murmurmill/laws.FnForged128", spec := "fnForged128", apart := false, narrowed := true }
def FnForged128UptoSaid : Prop := fnForged128UptoRow.holds Try.pinned (OpenSpec.upto fnForged128Spec)

/-- 'laws.FnSum128', WHERE WHAT IT READS IS OF BULK AT MOST 1048576: true; the input reads as it did. -/
def fnSum128UptoRow : OpenClaim := { program := "ytfnejnoldonfeaa", sum := "eec25a5ba9c9bb5df5e343350b52bf4651ef40220404211299ebbb7314c0f606", func := "murmurmill/laws.FnSum128", spec := "fnSum128", apart := false, narrowed := true }
def FnSum128UptoSaid : Prop := fnSum128UptoRow.holds Try.pinned (OpenSpec.upto fnSum128Spec)

/-- 'laws.FnKept', WHERE WHAT IT READS IS OF BULK AT MOST 1048576: true; the input reads as it did. -/
def fnKeptUptoRow : OpenClaim := { program := "ytfnejnoldonfeaa", sum := "eec25a5ba9c9bb5df5e343350b52bf4651ef40220404211299ebbb7314c0f606", func := "murmurmill/laws.FnKept", spec := "fnKept", apart := false, narrowed := true }
def FnKeptUptoSaid : Prop := fnKeptUptoRow.holds Try.pinned (OpenSpec.upto fnKeptSpec)

/-- 'laws.FnSum64', WHERE WHAT IT READS IS OF BULK AT MOST 1048576: true; the input reads as it did. -/
def fnSum64UptoRow : OpenClaim := { program := "ytfnejnoldonfeaa", sum := "eec25a5ba9c9bb5df5e343350b52bf4651ef40220404211299ebbb7314c0f606", func := "murmurmill/laws.FnSum64", spec := "fnSum64", apart := false, narrowed := true }
def FnSum64UptoSaid : Prop := fnSum64UptoRow.holds Try.pinned (OpenSpec.upto fnSum64Spec)

/-- 'laws.FnSplit', WHERE WHAT IT READS IS OF BULK AT MOST 1048576: true; the input reads as it did. -/
def fnSplitUptoRow : OpenClaim := { program := "ytfnejnoldonfeaa", sum := "eec25a5ba9c9bb5df5e343350b52bf4651ef40220404211299ebbb7314c0f606", func := "murmurmill/laws.FnSplit", spec := "fnSplit", unfollowed := true, recurses := true, apart := false, narrowed := true }
def FnSplitUptoSaid : Prop := fnSplitUptoRow.holds Try.pinned (OpenSpec.upto fnSplitSpec)

/-- 'laws.FnPieces', WHERE WHAT IT READS IS OF BULK AT MOST 1048576: true; the input reads as it did. -/
def fnPiecesUptoRow : OpenClaim := { program := "ytfnejnoldonfeaa", sum := "eec25a5ba9c9bb5df5e343350b52bf4651ef40220404211299ebbb7314c0f606", func := "murmurmill/laws.FnPieces", spec := "fnPieces", unfollowed := true, recurses := true, apart := false, narrowed := true }
def FnPiecesUptoSaid : Prop := fnPiecesUptoRow.holds Try.pinned (OpenSpec.upto fnPiecesSpec)

/-- 'laws.FnSizes', WHERE WHAT IT READS IS OF BULK AT MOST 1048576: true; the input reads as it did. -/
def fnSizesUptoRow : OpenClaim := { program := "ytfnejnoldonfeaa", sum := "eec25a5ba9c9bb5df5e343350b52bf4651ef40220404211299ebbb7314c0f606", func := "murmurmill/laws.FnSizes", spec := "fnSizes", unfollowed := true, recurses := true, apart := false, narrowed := true }
def FnSizesUptoSaid : Prop := fnSizesUptoRow.holds Try.pinned (OpenSpec.upto fnSizesSpec)

/-- 'laws.FnAppended', WHERE WHAT IT READS IS OF BULK AT MOST 1048576: true; the input reads as it did. -/
def fnAppendedUptoRow : OpenClaim := { program := "ytfnejnoldonfeaa", sum := "eec25a5ba9c9bb5df5e343350b52bf4651ef40220404211299ebbb7314c0f606", func := "murmurmill/laws.FnAppended", spec := "fnAppended", unfollowed := true, recurses := true, apart := false, narrowed := true }
def FnAppendedUptoSaid : Prop := fnAppendedUptoRow.holds Try.pinned (OpenSpec.upto fnAppendedSpec)

/-- 'laws.FnBare', WHERE WHAT IT READS IS OF BULK AT MOST 1048576: true; the input reads as it did. -/
def fnBareUptoRow : OpenClaim := { program := "ytfnejnoldonfeaa", sum := "eec25a5ba9c9bb5df5e343350b52bf4651ef40220404211299ebbb7314c0f606", func := "murmurmill/laws.FnBare", spec := "fnBare", unfollowed := true, recurses := true, apart := false, narrowed := true }
def FnBareUptoSaid : Prop := fnBareUptoRow.holds Try.pinned (OpenSpec.upto fnBareSpec)

/-- 'laws.FnTurns', WHERE WHAT IT READS IS OF BULK AT MOST 1048576: true; the input reads as it did. -/
def fnTurnsUptoRow : OpenClaim := { program := "ytfnejnoldonfeaa", sum := "eec25a5ba9c9bb5df5e343350b52bf4651ef40220404211299ebbb7314c0f606", func := "murmurmill/laws.FnTurns", spec := "fnTurns", unfollowed := true, recurses := true, apart := false, narrowed := true }
def FnTurnsUptoSaid : Prop := fnTurnsUptoRow.holds Try.pinned (OpenSpec.upto fnTurnsSpec)

/-- 'laws.FnAgain', WHERE WHAT IT READS IS OF BULK AT MOST 1048576: true; the input reads as it did. -/
def fnAgainUptoRow : OpenClaim := { program := "ytfnejnoldonfeaa", sum := "eec25a5ba9c9bb5df5e343350b52bf4651ef40220404211299ebbb7314c0f606", func := "murmurmill/laws.FnAgain", spec := "fnAgain", unfollowed := true, recurses := true, apart := false, narrowed := true }
def FnAgainUptoSaid : Prop := fnAgainUptoRow.holds Try.pinned (OpenSpec.upto fnAgainSpec)

/-- 'laws.FnSummed', WHERE WHAT IT READS IS OF BULK AT MOST 1048576: true; the input reads as it did. -/
def fnSummedUptoRow : OpenClaim := { program := "ytfnejnoldonfeaa", sum := "eec25a5ba9c9bb5df5e343350b52bf4651ef40220404211299ebbb7314c0f606", func := "murmurmill/laws.FnSummed", spec := "fnSummed", unfollowed := true, recurses := true, apart := false, narrowed := true }
def FnSummedUptoSaid : Prop := fnSummedUptoRow.holds Try.pinned (OpenSpec.upto fnSummedSpec)

end Rows
end Go.Proofs.Ytfnejnoldonfeaa
