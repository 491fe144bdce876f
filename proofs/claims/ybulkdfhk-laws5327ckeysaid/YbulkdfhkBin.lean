/-
  binary.LittleEndian.PutUint32 (12), Uint64 (13).
-/
import Derived.Test.YbulkdfhkKp
import Derived.Lib.EndianBits
import Derived.Deep.QuietTactic
import Derived.BigQuiet
namespace Go.Proofs.Ybulkdfhk
open Go.RowKit

theorem cell_old {w : World} {X i : Nat} {v : Value} (o : Obj) (h : w.cell? ⟨X, i, none⟩ = some v) : (w.alloc o).cell? ⟨X, i, none⟩ = some v :=
  (World.cell?_alloc_lt _ _ _ (lt_of_cell h)).trans h

set_option maxHeartbeats 1000000 in
set_option maxRecDepth 100000 in
theorem put32 (g o n c : Nat) (v : Int) (h0 : 0 ≤ v) (hv : v < 4294967296) (x0 x1 x2 x3 : Value) (w : World) (hn : (4 : Int) ≤ n)
    (c0 : w.cell? ⟨g, o, none⟩ = some x0) (c1 : w.cell? ⟨g, o + 1, none⟩ = some x1) (c2 : w.cell? ⟨g, o + 2, none⟩ = some x2) (c3 : w.cell? ⟨g, o + 3, none⟩ = some x3)
    (f0 : w.frozen? ⟨g, o, none⟩ = false) (f1 : w.frozen? ⟨g, o + 1, none⟩ = false) (f2 : w.frozen? ⟨g, o + 2, none⟩ = false) (f3 : w.frozen? ⟨g, o + 3, none⟩ = false) :
    Calls Yba.prog 12 #[.agg #[], .slice (some ⟨g, o, none⟩) n c, .int .u32 v] w fun e w' => e = .returned (.tuple #[]) ∧
      w' = (w.alloc (.cells #[] 50)).setCells g o [.int .u8 (v % 256), .int .u8 (v / 256 % 256), .int .u8 (v / 65536 % 256), .int .u8 (v / 16777216)] := by
  have d0 := cell_old (.cells #[] 50) c0
  have fa0 := (frozen?_alloc_cells w #[] 50 ⟨g, o, none⟩).trans f0
  have d1 := cell_old (.cells #[] 50) c1
  have fa1 := (frozen?_alloc_cells w #[] 50 ⟨g, o + 1, none⟩).trans f1
  have d2 := cell_old (.cells #[] 50) c2
  have fa2 := (frozen?_alloc_cells w #[] 50 ⟨g, o + 2, none⟩).trans f2
  have d3 := cell_old (.cells #[] 50) c3
  have fa3 := (frozen?_alloc_cells w #[] 50 ⟨g, o + 3, none⟩).trans f3
  have q0 : 0 < n := by omega
  have q1 : (1 : Int) < (n : Int) := by omega
  have q2 : (2 : Int) < (n : Int) := by omega
  have q3 : (3 : Int) < (n : Int) := by omega
  go_enter Yba.func12, Yba.ntmps12
  go_wp2
  go_end0
  refine ⟨rfl, ?_⟩
  rfl
/-- the number that eight bytes spell, the least first -/
def le8 (z0 z1 z2 z3 z4 z5 z6 z7 : Int) : Int := z0 + z1 * 256 + z2 * 65536 + z3 * 16777216 + z4 * 4294967296 + z5 * 1099511627776 + z6 * 281474976710656 + z7 * 72057594037927936

set_option maxHeartbeats 4000000 in
set_option maxRecDepth 100000 in
theorem get64 (g o n c : Nat) (z0 z1 z2 z3 z4 z5 z6 z7 : Int) (w : World) (hn : (8 : Int) ≤ n)
    (b0 : 0 ≤ z0 ∧ z0 < 256) (b1 : 0 ≤ z1 ∧ z1 < 256) (b2 : 0 ≤ z2 ∧ z2 < 256) (b3 : 0 ≤ z3 ∧ z3 < 256) (b4 : 0 ≤ z4 ∧ z4 < 256) (b5 : 0 ≤ z5 ∧ z5 < 256) (b6 : 0 ≤ z6 ∧ z6 < 256) (b7 : 0 ≤ z7 ∧ z7 < 256)
    (c0 : w.cell? ⟨g, o, none⟩ = some (.int .u8 z0)) (c1 : w.cell? ⟨g, o + 1, none⟩ = some (.int .u8 z1)) (c2 : w.cell? ⟨g, o + 2, none⟩ = some (.int .u8 z2)) (c3 : w.cell? ⟨g, o + 3, none⟩ = some (.int .u8 z3)) (c4 : w.cell? ⟨g, o + 4, none⟩ = some (.int .u8 z4)) (c5 : w.cell? ⟨g, o + 5, none⟩ = some (.int .u8 z5)) (c6 : w.cell? ⟨g, o + 6, none⟩ = some (.int .u8 z6)) (c7 : w.cell? ⟨g, o + 7, none⟩ = some (.int .u8 z7)) :
    Calls Yba.prog 13 #[.agg #[], .slice (some ⟨g, o, none⟩) n c] w fun e w' => e = .returned (.int .u64 (le8 z0 z1 z2 z3 z4 z5 z6 z7)) ∧ ∃ k, w' = (w.alloc (.cells #[] 50)).drewN k := by
  have d0 := cell_old (.cells #[] 50) c0
  obtain ⟨l0, u0⟩ := b0
  have d1 := cell_old (.cells #[] 50) c1
  obtain ⟨l1, u1⟩ := b1
  have d2 := cell_old (.cells #[] 50) c2
  obtain ⟨l2, u2⟩ := b2
  have d3 := cell_old (.cells #[] 50) c3
  obtain ⟨l3, u3⟩ := b3
  have d4 := cell_old (.cells #[] 50) c4
  obtain ⟨l4, u4⟩ := b4
  have d5 := cell_old (.cells #[] 50) c5
  obtain ⟨l5, u5⟩ := b5
  have d6 := cell_old (.cells #[] 50) c6
  obtain ⟨l6, u6⟩ := b6
  have d7 := cell_old (.cells #[] 50) c7
  obtain ⟨l7, u7⟩ := b7
  have q0 : 0 < n := by omega
  have q1 : (1 : Int) < (n : Int) := by omega
  have q2 : (2 : Int) < (n : Int) := by omega
  have q3 : (3 : Int) < (n : Int) := by omega
  have q4 : (4 : Int) < (n : Int) := by omega
  have q5 : (5 : Int) < (n : Int) := by omega
  have q6 : (6 : Int) < (n : Int) := by omega
  have q7 : (7 : Int) < (n : Int) := by omega
  go_enter Yba.func13, Yba.ntmps13
  go_wp2
  go_quiet (fail)
  go_wp2
  go_ret
  refine ⟨?_, _, rfl⟩
  simp (disch := omega) only [u64_or8, u64_or16, u64_or24, u64_or32, u64_or40, u64_or48, u64_or56]
  rfl
end Go.Proofs.Ybulkdfhk
