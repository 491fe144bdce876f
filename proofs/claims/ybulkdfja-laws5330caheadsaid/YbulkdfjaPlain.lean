/-
  zzs5330cplain (17), with time.Time.IsZero (24) in place.
-/
import Derived.Test.YbulkdfjaLeaf
import Derived.Lib.SliceRun
namespace Go.Proofs.Ybulkdfja
open Go.RowKit
set_option linter.unusedVariables false

/-- A bare Entry. -/
def bare (c id : ByteArray) (cp st : Int) (rm un : Bool) : Value :=
  .agg #[.string c, .string id, .int .i64 cp, .slice none 0 0, .slice none 0 0, .int .u64 0, .int .u64 st, .bool rm, .bool false, .int .u64 0, .int .i64 0, .pointer none, .bool un]

set_option maxRecDepth 100000 in
set_option maxHeartbeats 1600000 in
theorem cplain (c id : ByteArray) (cp st : Int) (rm un : Bool) (w : World) :
    Calls Yba.prog 17 #[bare c id cp st rm un, .string c] w fun e w' => e = .returned (.bool true) ∧ Below w.heap.size w w' := by
  have n25 : ∀ w : World, (binOp .eql 25 (.slice none 0 0) (.slice none 0 0)).run Yba.prog w = .ok (.bool true) w := fun w => Lib.run_eql_slice_nil w 25 _ none 0 0 0 0 Yba.underlying25
  have n63 : ∀ w : World, (binOp .eql 63 (.slice none 0 0) (.slice none 0 0)).run Yba.prog w = .ok (.bool true) w := fun w => Lib.run_eql_slice_nil w 63 _ none 0 0 0 0 Yba.underlying63
  unfold bare
  go_enter Yba.func17, Yba.ntmps17
  go_wp2
  go_ret
  exact ⟨rfl, ((Below.refl _ _).alloc (Nat.le_refl _) _).alloc (by simp) _⟩
end Go.Proofs.Ybulkdfja
