/-
  Plain arithmetic: what PutUint32 lays, Uint64 reads: two words as one.
-/
import Derived.Test.YbulkdfhkMk
namespace Go.Proofs.Ybulkdfhk
open Go.RowKit

theorem four (x : Int) (h0 : 0 ≤ x) (h1 : x < 4294967296) : x % 256 + x / 256 % 256 * 256 + x / 65536 % 256 * 65536 + x / 16777216 % 256 * 16777216 = x := by omega
theorem pr_sum (lo hi : Int) (h0 : 0 ≤ lo) (h1 : lo < 4294967296) (g0 : 0 ≤ hi) (g1 : hi < 4294967296) : pr lo hi = lo + hi * 4294967296 := by
  unfold pr
  rw [u64_wrap_id lo h0 (by omega), u64_wrap_id hi g0 (by omega), u64_wrap_id _ (by omega) (by omega), u64_or32 _ _ h0 h1 (by omega) (by omega) (by omega)]
theorem bytes_word (W : Nat → Int) (j : Nat) : byteOf W (4 * j) = W j % 256 ∧ byteOf W (4 * j + 1) = W j / 256 % 256 ∧ byteOf W (4 * j + 2) = W j / 65536 % 256 ∧ byteOf W (4 * j + 3) = W j / 16777216 % 256 := by
  unfold byteOf
  refine ⟨?_, ?_, ?_, ?_⟩
  · rw [show 4 * j / 4 = j by omega, show 4 * j % 4 = 0 by omega]; simp
  · rw [show (4 * j + 1) / 4 = j by omega, show (4 * j + 1) % 4 = 1 by omega]; simp
  · rw [show (4 * j + 2) / 4 = j by omega, show (4 * j + 2) % 4 = 2 by omega]; rfl
  · rw [show (4 * j + 3) / 4 = j by omega, show (4 * j + 3) % 4 = 3 by omega]; rfl
theorem le8_pr (W : Nat → Int) (j : Nat) (h : ∀ i, 0 ≤ W i ∧ W i < 4294967296) (b0 b1 b2 b3 b4 b5 b6 b7 : Nat) (e : b0 = 4 * j ∧ b1 = 4 * j + 1 ∧ b2 = 4 * j + 2 ∧ b3 = 4 * j + 3 ∧ b4 = 4 * (j + 1) ∧ b5 = 4 * (j + 1) + 1 ∧ b6 = 4 * (j + 1) + 2 ∧ b7 = 4 * (j + 1) + 3) :
    le8 (byteOf W b0) (byteOf W b1) (byteOf W b2) (byteOf W b3) (byteOf W b4) (byteOf W b5) (byteOf W b6) (byteOf W b7) = pr (W j) (W (j + 1)) := by
  obtain ⟨rfl, rfl, rfl, rfl, rfl, rfl, rfl, rfl⟩ := e
  obtain ⟨p0, p1, p2, p3⟩ := bytes_word W j
  obtain ⟨q0, q1, q2, q3⟩ := bytes_word W (j + 1)
  rw [p0, p1, p2, p3, q0, q1, q2, q3, pr_sum _ _ (h j).1 (h j).2 (h (j + 1)).1 (h (j + 1)).2]
  have f0 := four (W j) (h j).1 (h j).2
  have f1 := four (W (j + 1)) (h (j + 1)).1 (h (j + 1)).2
  unfold le8
  omega
theorem blk_range (s : Nat → Int) (i : Nat) : 0 ≤ blk s i ∧ blk s i < 4294967296 := by unfold blk; omega
theorem keyR0_eq (s : Nat → Int) : keyR0 (byteOf (blk s)) = bits BinOp.and IntKind.u64 (pr (blk s 0) (blk s 1)) 1152921487695413247 := by
  unfold keyR0; rw [le8_pr (blk s) 0 (blk_range s) _ _ _ _ _ _ _ _ (by decide)]
theorem keyR1_eq (s : Nat → Int) : keyR1 (byteOf (blk s)) = bits BinOp.and IntKind.u64 (pr (blk s 2) (blk s 3)) 1152921487695413244 := by
  unfold keyR1; rw [le8_pr (blk s) 2 (blk_range s) _ _ _ _ _ _ _ _ (by decide)]
theorem keyS0_eq (s : Nat → Int) : keyS0 (byteOf (blk s)) = pr (blk s 4) (blk s 5) := by
  unfold keyS0; rw [le8_pr (blk s) 4 (blk_range s) _ _ _ _ _ _ _ _ (by decide)]
theorem keyS1_eq (s : Nat → Int) : keyS1 (byteOf (blk s)) = pr (blk s 6) (blk s 7) := by
  unfold keyS1; rw [le8_pr (blk s) 6 (blk_range s) _ _ _ _ _ _ _ _ (by decide)]
end Go.Proofs.Ybulkdfhk
