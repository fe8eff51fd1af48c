/-
  '==' and '!=' between two values of the sums (type 38).
  Conditions: none.
-/
import Derived.Test.YtfnejnoldonfeaaReg
import Derived.Test.YtfnejnoldonfeaaMath2
namespace Go.Proofs.Ytfnejnoldonfeaa
open Go.RowKit
theorem eqg38 : Try.prog.eqGuardType Try.prog.depth 38 = false := by kernel_rfl
theorem stood38 : Try.prog.stoodInHeld 38 = false := by kernel_rfl
/-- Four sums, as a value. -/
def sums4 (a : BitVec 32) (b c d : BitVec 64) : Value := .agg #[.int .u32 (un a), .int .u64 (un b), .int .u64 (un c), .int .u64 (un d)]
theorem fields38 : (Try.prog.fieldsOf 38).toList = [{ name := "X", type := 23, offset := 0, embedded := false, tag := "", pkgPath := "", byteOffset := 0 },
        { name := "Y", type := 31, offset := 1, embedded := false, tag := "", pkgPath := "", byteOffset := 8 },
        { name := "One", type := 31, offset := 2, embedded := false, tag := "", pkgPath := "", byteOffset := 16 },
        { name := "Two", type := 31, offset := 3, embedded := false, tag := "", pkgPath := "", byteOffset := 24 }] := by
  unfold Program.fieldsOf; rw [Try.underlying38]
theorem struct38 : Try.prog.underlying 38 = some (.struct (Try.prog.fieldsOf 38)) := by
  unfold Program.fieldsOf; rw [Try.underlying38]
theorem equalIn_sums (w : World) (a a' : BitVec 32) (b b' c c' d d' : BitVec 64) :
    (Op.equalIn 10000 38 (sums4 a b c d) (sums4 a' b' c' d')).run Try.prog w = .ok (a == a' && (b == b' && (c == c' && d == d'))) w := by
  unfold sums4
  rw [run_equalIn_struct w 9999 38 _ _ struct38 stood38, fields38]
  simp only [Op.eqFields]
  simp [part, run_equalIn_int _ _ 23 .u32 .u32 _ _ Try.underlying23, run_equalIn_int _ _ 31 .u64 .u64 _ _ Try.underlying31, un_beq]
  by_cases h1 : a = a' <;> by_cases h2 : b = b' <;> by_cases h3 : c = c' <;> by_cases h4 : d = d' <;> simp [h1, h2, h3, h4]
section
variable (w : World) (x y : Operand) (a a' : BitVec 32) (b b' c c' d d' : BitVec 64)
@[go_sem] theorem eq_sums : (binOp .eql 38 (sums4 a b c d) (sums4 a' b' c' d')).run Try.prog w = .ok (.bool (a == a' && (b == b' && (c == c' && d == d')))) w := by
  show (binOp .eql 38 (.agg _) (.agg _)).run Try.prog w = _
  rw [run_eql_struct]
  show ((Op.equalIn 10000 38 (sums4 a b c d) (sums4 a' b' c' d')).run Try.prog w).andThen _ = _
  rw [equalIn_sums]; rfl
@[go_sem] theorem neq_sums : (binOp .neq 38 (sums4 a b c d) (sums4 a' b' c' d')).run Try.prog w = .ok (.bool (!(a == a' && (b == b' && (c == c' && d == d'))))) w := by
  show (binOp .neq 38 (.agg _) (.agg _)).run Try.prog w = _
  rw [run_neq_struct]
  show ((Op.equalIn 10000 38 (sums4 a b c d) (sums4 a' b' c' d')).run Try.prog w).andThen _ = _
  rw [equalIn_sums]; rfl
@[go_sem] theorem guard_sums (op : BinOp) : (eqGuard op 38 x y (sums4 a b c d) (sums4 a' b' c' d')).run Try.prog w = .ok () w :=
  run_eqGuard_agg w op 38 x y _ _ eqg38
@[go_sem] theorem eq_sums_left : (binOp .eql 38 (.agg #[.int .u32 (un a), .int .u64 (un b), .int .u64 (un c), .int .u64 (un d)]) (sums4 a' b' c' d')).run Try.prog w = .ok (.bool (a == a' && (b == b' && (c == c' && d == d')))) w :=
  eq_sums w a a' b b' c c' d d'
@[go_sem] theorem neq_sums_left : (binOp .neq 38 (.agg #[.int .u32 (un a), .int .u64 (un b), .int .u64 (un c), .int .u64 (un d)]) (sums4 a' b' c' d')).run Try.prog w = .ok (.bool (!(a == a' && (b == b' && (c == c' && d == d'))))) w :=
  neq_sums w a a' b b' c c' d d'
@[go_sem] theorem guard_sums_left (op : BinOp) : (eqGuard op 38 x y (.agg #[.int .u32 (un a), .int .u64 (un b), .int .u64 (un c), .int .u64 (un d)]) (sums4 a' b' c' d')).run Try.prog w = .ok () w :=
  guard_sums w x y a a' b b' c c' d d' op
end
end Go.Proofs.Ytfnejnoldonfeaa
