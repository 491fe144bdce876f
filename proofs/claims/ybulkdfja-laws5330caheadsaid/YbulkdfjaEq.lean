/-
  Two slots compared.
-/
import Derived.Test.YbulkdfjaLeaf
import Derived.Laws.StructEq
namespace Go.Proofs.Ybulkdfja
open Go.RowKit
set_option maxRecDepth 100000 in
theorem eq62 (a b : ByteArray) (x y : Int) (w : World) : (binOp .eql 62 (.agg #[.string a, .int .i64 x]) (.agg #[.string b, .int .i64 y])).run Yba.prog w = .ok (.bool (a.toList == b.toList && x == y)) w := by
  have hS : Yba.prog.underlying 62 = some (.struct (Yba.prog.fieldsOf 62)) := by kernel_rfl
  have hp : Yba.prog.stoodInHeld 62 = false := by kernel_rfl
  rw [run_eql_struct, show (10000 : Nat) = 9999 + 1 from rfl, run_equalIn_agg w 9999 62 _ _ hS hp]
  simp only [Program.fieldsOf, Yba.underlying62]
  go_simp
  by_cases h1 : a.toList = b.toList <;> by_cases h2 : x = y <;> simp [h1, h2]
theorem guard62 : Yba.prog.eqGuardType Yba.prog.depth 62 = false := by kernel_rfl
end Go.Proofs.Ybulkdfja
