/-
  The leaves: rotl (14), bits.RotateLeft32 (15), pair (7), quarterRound (11).
-/
import Derived.Test.YbulkdfhkRows
import Derived.WalkKit
import Derived.WalkSpells
import Derived.WalkLawsBesides
namespace Go.Proofs.Ybulkdfhk
open Go.RowKit

def r16 (v : Int) : Int := bits BinOp.or IntKind.u32 (v * 65536 % 4294967296) (v / 65536)
def r12 (v : Int) : Int := bits BinOp.or IntKind.u32 (v * 4096 % 4294967296) (v / 1048576)
def r8 (v : Int) : Int := bits BinOp.or IntKind.u32 (v * 256 % 4294967296) (v / 16777216)
def r7 (v : Int) : Int := bits BinOp.or IntKind.u32 (v * 128 % 4294967296) (v / 33554432)

/-- the quarter round, step by step, as the walk spells it -/
def qd1 (a b d : Int) : Int := r16 (bits BinOp.xor IntKind.u32 d ((a + b) % 4294967296))
def qb1 (a b c d : Int) : Int := r12 (bits BinOp.xor IntKind.u32 b ((c + qd1 a b d) % 4294967296))
def qA (a b c d : Int) : Int := (a + b + qb1 a b c d) % 4294967296
def qD (a b c d : Int) : Int := r8 (bits BinOp.xor IntKind.u32 (qd1 a b d) (qA a b c d))
def qC (a b c d : Int) : Int := (c + qd1 a b d + qD a b c d) % 4294967296
def qB (a b c d : Int) : Int := r7 (bits BinOp.xor IntKind.u32 (qb1 a b c d) (qC a b c d))
/-- two words as one -/
def pr (lo hi : Int) : Int := bits BinOp.or IntKind.u64 (IntKind.u64.wrap lo) (IntKind.u64.wrap (IntKind.u64.wrap hi * 4294967296))

theorem rotl16 (v : Int) (w : World) : Calls Yba.prog 14 #[.int .u32 v, .int .u64 16] w fun e w' => e = .returned (.int .u32 (r16 v)) ∧ w' = w := by
  go_enter Yba.func14, Yba.ntmps14
  go_wp2
  go_ret
  exact ⟨rfl, rfl⟩
theorem rotl12 (v : Int) (w : World) : Calls Yba.prog 14 #[.int .u32 v, .int .u64 12] w fun e w' => e = .returned (.int .u32 (r12 v)) ∧ w' = w := by
  go_enter Yba.func14, Yba.ntmps14
  go_wp2
  go_ret
  exact ⟨rfl, rfl⟩
theorem rotl8 (v : Int) (w : World) : Calls Yba.prog 14 #[.int .u32 v, .int .u64 8] w fun e w' => e = .returned (.int .u32 (r8 v)) ∧ w' = w := by
  go_enter Yba.func14, Yba.ntmps14
  go_wp2
  go_ret
  exact ⟨rfl, rfl⟩
theorem rotl7 (v : Int) (w : World) : Calls Yba.prog 14 #[.int .u32 v, .int .u64 7] w fun e w' => e = .returned (.int .u32 (r7 v)) ∧ w' = w := by
  go_enter Yba.func14, Yba.ntmps14
  go_wp2
  go_ret
  exact ⟨rfl, rfl⟩

theorem rot16 (v : Int) (w : World) : Calls Yba.prog 15 #[.int .u32 v, .int .i64 16] w fun e w' => e = .returned (.int .u32 (r16 v)) ∧ w' = w := by
  have hb : bits BinOp.and IntKind.u64 16 31 = 16 := by decide
  go_enter Yba.func15, Yba.ntmps15
  go_wp2
  go_ret
  exact ⟨rfl, rfl⟩
theorem rot12 (v : Int) (w : World) : Calls Yba.prog 15 #[.int .u32 v, .int .i64 12] w fun e w' => e = .returned (.int .u32 (r12 v)) ∧ w' = w := by
  have hb : bits BinOp.and IntKind.u64 12 31 = 12 := by decide
  go_enter Yba.func15, Yba.ntmps15
  go_wp2
  go_ret
  exact ⟨rfl, rfl⟩
theorem rot8 (v : Int) (w : World) : Calls Yba.prog 15 #[.int .u32 v, .int .i64 8] w fun e w' => e = .returned (.int .u32 (r8 v)) ∧ w' = w := by
  have hb : bits BinOp.and IntKind.u64 8 31 = 8 := by decide
  go_enter Yba.func15, Yba.ntmps15
  go_wp2
  go_ret
  exact ⟨rfl, rfl⟩
theorem rot7 (v : Int) (w : World) : Calls Yba.prog 15 #[.int .u32 v, .int .i64 7] w fun e w' => e = .returned (.int .u32 (r7 v)) ∧ w' = w := by
  have hb : bits BinOp.and IntKind.u64 7 31 = 7 := by decide
  go_enter Yba.func15, Yba.ntmps15
  go_wp2
  go_ret
  exact ⟨rfl, rfl⟩

theorem pair_any (lo hi : Int) (w : World) : Calls Yba.prog 7 #[.int .u32 lo, .int .u32 hi] w fun e w' => e = .returned (.int .u64 (pr lo hi)) ∧ w' = w := by
  go_enter Yba.func7, Yba.ntmps7
  go_wp2
  go_ret
  exact ⟨rfl, rfl⟩

set_option maxHeartbeats 1000000 in
theorem quarter (a b c d : Int) (w : World) : Calls Yba.prog 11 #[.int .u32 a, .int .u32 b, .int .u32 c, .int .u32 d] w fun e w' =>
    e = .returned (.tuple #[.int .u32 (qA a b c d), .int .u32 (qB a b c d), .int .u32 (qC a b c d), .int .u32 (qD a b c d)]) ∧ w' = w := by
  go_enter Yba.func11, Yba.ntmps11
  go_wp2_with fail
  refine (rot16 _ _).mono ?_; rintro e w' ⟨rfl, rfl⟩
  go_wp2_with fail
  refine (rot12 _ _).mono ?_; rintro e w' ⟨rfl, rfl⟩
  go_wp2_with fail
  refine (rot8 _ _).mono ?_; rintro e w' ⟨rfl, rfl⟩
  go_wp2_with fail
  refine (rot7 _ _).mono ?_; rintro e w' ⟨rfl, rfl⟩
  go_wp2_with fail
  exact bodyPost_ret (v := .tuple #[.int .u32 (qA a b c d), .int .u32 (qB a b c d), .int .u32 (qC a b c d), .int .u32 (qD a b c d)]) (by simp [results, Yba.results11, go_sem]; exact ⟨rfl, rfl, rfl, rfl⟩) rfl ⟨rfl, rfl⟩
end Go.Proofs.Ybulkdfhk
