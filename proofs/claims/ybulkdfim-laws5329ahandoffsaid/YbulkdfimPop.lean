/-
  popFront (21) of a queue whose head is x, x.prev nil; remove (34).
-/
import Derived.Test.YbulkdfimLeaf
import Derived.StillTailTactics
import Derived.Lib.Builder
namespace Go.Proofs.Ybulkdfim
open Go.RowKit
set_option linter.unusedVariables false

theorem mixed : Yba.prog.follows .mixedOrders = true := by kernel_rfl
theorem still_tail {P : Program} {id : Nat} {Q : Exit → Act → World → Prop} {a : Act} {w : World} {l : List Oper} (n : Nat) (hm : P.follows .mixedOrders = true) (hB : Region.lexTailB .any l.toArray n = true)
    (h : wpStill P l.toArray w.drew (fun a' => wpList P l.toArray Q (l.drop n) a' w.drew) (l.take n) a) : (Code.region id l.toArray true).wp P Q a w :=
  wp_region_still_tail n hm hB h

theorem ptr_same (a : Addr) (w : World) : (binOp .neq 42 (.pointer (some a)) (.pointer (some a))).run Yba.prog w = .ok (.bool false) w := by
  have hs : (Yba.prog.info? 51).isSome = true := by kernel_rfl
  obtain ⟨i, hi⟩ := Option.isSome_iff_exists.1 hs
  exact Lib.run_neq_ptr_same (P := Yba.prog) (w := w) a Yba.underlying42 hi

set_option maxRecDepth 100000 in
set_option maxHeartbeats 1600000 in
/-- x is the last. -/
theorem pop_last (M X : Nat) (t : Value) (w : World)
    (c9 : w.cell? ⟨M, 9, none⟩ = some (.pointer (some ⟨X, 0, none⟩))) (c10 : w.cell? ⟨M, 10, none⟩ = some t)
    (n0 : w.cell? ⟨X, 0, none⟩ = some (.pointer none)) (p0 : w.cell? ⟨X, 1, none⟩ = some (.pointer none))
    (f9 : w.frozen? ⟨M, 9, none⟩ = false) (f10 : w.frozen? ⟨M, 10, none⟩ = false) (g0 : w.frozen? ⟨X, 0, none⟩ = false) (g1 : w.frozen? ⟨X, 1, none⟩ = false) :
    Calls Yba.prog 21 #[.pointer (some ⟨M, 9, none⟩)] w fun e w' => e = .returned (.pointer (some ⟨X, 0, none⟩)) ∧
      w' = (((w.setCell ⟨M, 9, none⟩ (.pointer none)).setCell ⟨M, 10, none⟩ (.pointer none)).setCell ⟨X, 0, none⟩ (.pointer none)).setCell ⟨X, 1, none⟩ (.pointer none) := by
  have hpp := ptr_same
  go_enter Yba.func21, Yba.ntmps21
  go_wp2
  go_ret
  exact ⟨rfl, rfl⟩

set_option maxRecDepth 100000 in
set_option maxHeartbeats 1600000 in
/-- y follows x. -/
theorem pop_next (M X Y : Nat) (y1 : Value) (w : World) (hMX : M ≠ X) (hXM : X ≠ M) (hMY : M ≠ Y) (hYM : Y ≠ M) (hXY : X ≠ Y) (hYX : Y ≠ X)
    (c9 : w.cell? ⟨M, 9, none⟩ = some (.pointer (some ⟨X, 0, none⟩)))
    (n0 : w.cell? ⟨X, 0, none⟩ = some (.pointer (some ⟨Y, 0, none⟩))) (p0 : w.cell? ⟨X, 1, none⟩ = some (.pointer none)) (q1 : w.cell? ⟨Y, 1, none⟩ = some y1)
    (f9 : w.frozen? ⟨M, 9, none⟩ = false) (g0 : w.frozen? ⟨X, 0, none⟩ = false) (g1 : w.frozen? ⟨X, 1, none⟩ = false) (k1 : w.frozen? ⟨Y, 1, none⟩ = false) :
    Calls Yba.prog 21 #[.pointer (some ⟨M, 9, none⟩)] w fun e w' => e = .returned (.pointer (some ⟨X, 0, none⟩)) ∧
      w' = ((((w.setCell ⟨M, 9, none⟩ (.pointer (some ⟨Y, 0, none⟩))).setCell ⟨Y, 1, none⟩ (.pointer none)).setCell ⟨X, 0, none⟩ (.pointer none)).setCell ⟨X, 1, none⟩ (.pointer none)).drew := by
  have hpp := ptr_same
  go_enter Yba.func21, Yba.ntmps21
  go_wp2
  refine still_tail 10 mixed (by kernel_rfl) ?_
  simp only [List.take_succ_cons, List.take_zero, List.drop_succ_cons, List.drop_zero]
  repeat still_step
  refine wpStill_nil ?_
  go_wp2
  go_ret
  exact ⟨rfl, rfl⟩
end Go.Proofs.Ybulkdfim
