/-
  LawS5329ADrain: the walk at every slice.
-/
import Derived.Test.YbulkdfimDr
import Derived.OpenShut
namespace Go.Proofs.Ybulkdfim
open Go.RowKit Go.Conc

theorem drain_long (a0 : Option Addr) (n cap : Nat) (low h0 : Int) (w : World) (hn : (512 : Int) < n) :
    Calls Yba.prog 4 #[.slice a0 n cap, .int .u8 low, .int .i64 h0] w fun e w' => e = .returned (.bool true) ∧ Below w.heap.size w w' := by
  go_enter Yba.func4, Yba.ntmps4
  go_wp2
  go_ret
  exact ⟨rfl, Below.refl _ _⟩
end Go.Proofs.Ybulkdfim
