import Derived.Test.YbulkdfhkMk
import Derived.ChangeKeysEq
namespace Go.Proofs.Ybulkdfhk
open Go.RowKit
theorem item (y : Nat → Int) (i : Nat) (hi : i < 8) (w : World) : (part 22 #[.int .u32 (y 0), .int .u32 (y 1), .int .u32 (y 2), .int .u32 (y 3), .int .u32 (y 4), .int .u32 (y 5), .int .u32 (y 6), .int .u32 (y 7)] i).run Yba.prog w = .ok (.int .u32 (y i)) w := by
  have h : i = 0 ∨ i = 1 ∨ i = 2 ∨ i = 3 ∨ i = 4 ∨ i = 5 ∨ i = 6 ∨ i = 7 := by omega
  rcases h with rfl | rfl | rfl | rfl | rfl | rfl | rfl | rfl <;> (show _ = _; kernel_rfl)
theorem items (y : Nat → Int) (d : Nat) (w : World) : ∀ is : List Nat, (∀ i ∈ is, i < 8) → (Op.eqItems (d + 1) 22 1 #[.int .u32 (y 0), .int .u32 (y 1), .int .u32 (y 2), .int .u32 (y 3), .int .u32 (y 4), .int .u32 (y 5), .int .u32 (y 6), .int .u32 (y 7)]
      #[.int .u32 (y 0), .int .u32 (y 1), .int .u32 (y 2), .int .u32 (y 3), .int .u32 (y 4), .int .u32 (y 5), .int .u32 (y 6), .int .u32 (y 7)] is).run Yba.prog w = .ok true w
  | [], _ => by simp [Op.eqItems]
  | i :: is, h => by
    have h1 := item y i (h i (by simp)) w
    have h2 := items y d w is (fun j hj => h j (by simp [hj]))
    simp only [Op.eqItems, Sem.run_bind, Nat.mul_one, h1, Result.andThen_ok, run_equalIn_int (P := Yba.prog) (w := w) d 22 .u32 .u32 (y i) (y i) Yba.underlying22]
    simpa using h2
theorem cells22 : Yba.prog.cellsOf 22 = 1 := by kernel_rfl
theorem eq8 (y : Nat → Int) (w : World) : (Op.equalIn 10000 24 (.agg #[.int .u32 (y 0), .int .u32 (y 1), .int .u32 (y 2), .int .u32 (y 3), .int .u32 (y 4), .int .u32 (y 5), .int .u32 (y 6), .int .u32 (y 7)])
      (.agg #[.int .u32 (y 0), .int .u32 (y 1), .int .u32 (y 2), .int .u32 (y 3), .int .u32 (y 4), .int .u32 (y 5), .int .u32 (y 6), .int .u32 (y 7)])).run Yba.prog w = .ok true w := by
  have hs : (Yba.prog.info? 22).isSome = true := by kernel_rfl
  obtain ⟨i, hi⟩ := Option.isSome_iff_exists.1 hs
  rw [run_equalIn_array w 9999 _ _ Yba.underlying24 hi, cells22]
  exact items y 9998 w (List.range 8) (fun i hi => List.mem_range.1 hi)
end Go.Proofs.Ybulkdfhk
