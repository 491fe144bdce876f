/-
  The leaves: atomics, the inner lock, the queue's test.
-/
import Derived.Test.YbulkdfimRows
import Derived.WalkKit
import Derived.WalkSpells
import Derived.WalkLawsBesides
import Derived.Laws.LoneSync
import Derived.Laws.Pointers
namespace Go.Proofs.Ybulkdfim
open Go.RowKit

theorem disable (w : World) : (callFunc 37 #[]).run Yba.prog w = .ok (.value (.tuple #[])) w := run_call_mark0 Yba.func37 (by kernel_rfl) (by kernel_rfl) (by kernel_rfl) .disable (by kernel_rfl) w
theorem enable (w : World) : (callFunc 38 #[]).run Yba.prog w = .ok (.value (.tuple #[])) w := run_call_mark0 Yba.func38 (by kernel_rfl) (by kernel_rfl) (by kernel_rfl) .enable (by kernel_rfl) w
theorem acquire (a : Addr) (w : World) : (callFunc 40 #[.pointer (some a)]).run Yba.prog w = .ok (.value (.tuple #[])) w := run_call_marked Yba.func40 (by kernel_rfl) (by kernel_rfl) (by kernel_rfl) .acquire (by kernel_rfl) a w
theorem releaseMerge (a : Addr) (w : World) : (callFunc 41 #[.pointer (some a)]).run Yba.prog w = .ok (.value (.tuple #[])) w := run_call_marked Yba.func41 (by kernel_rfl) (by kernel_rfl) (by kernel_rfl) .releaseMerge (by kernel_rfl) a w

theorem uload (b o : Nat) (x : Int) (w : World) (hc : w.cell? ⟨b, o, none⟩ = some (.int .u32 x)) : Calls Yba.prog 11 #[.pointer (some ⟨b, o, none⟩)] w fun e w' => e = .returned (.int .u32 x) ∧ w' = w := by
  have h := run_call_load (P := Yba.prog) Yba.func26 (by kernel_rfl) (by kernel_rfl) (by kernel_rfl) .u32 (by kernel_rfl) hc
  go_enter Yba.func11, Yba.ntmps11
  go_wp2
  go_ret
  exact ⟨rfl, rfl⟩
theorem iload (b o : Nat) (x : Int) (w : World) (hc : w.cell? ⟨b, o, none⟩ = some (.int .i64 x)) : Calls Yba.prog 10 #[.pointer (some ⟨b, o, none⟩)] w fun e w' => e = .returned (.int .i64 x) ∧ w' = w := by
  have h := run_call_load (P := Yba.prog) Yba.func25 (by kernel_rfl) (by kernel_rfl) (by kernel_rfl) .i64 (by kernel_rfl) hc
  go_enter Yba.func10, Yba.ntmps10
  go_wp2
  go_ret
  exact ⟨rfl, rfl⟩
theorem ustore (b o : Nat) (u : Value) (y : Int) (w : World) (hc : w.cell? ⟨b, o, none⟩ = some u) (hz : w.frozen? ⟨b, o, none⟩ = false) : Calls Yba.prog 17 #[.pointer (some ⟨b, o, none⟩), .int .u32 y] w fun e w' => e = .returned (.tuple #[]) ∧ w' = w.setCell ⟨b, o, none⟩ (.int .u32 y) := by
  have h := run_call_store (P := Yba.prog) Yba.func31 (by kernel_rfl) (by kernel_rfl) (by kernel_rfl) (by kernel_rfl) (k := .u32) (y := y) hc hz
  go_enter Yba.func17, Yba.ntmps17
  go_wp2
  go_end0
  exact ⟨rfl, rfl⟩
theorem istore (b o : Nat) (u : Value) (y : Int) (w : World) (hc : w.cell? ⟨b, o, none⟩ = some u) (hz : w.frozen? ⟨b, o, none⟩ = false) : Calls Yba.prog 18 #[.pointer (some ⟨b, o, none⟩), .int .i64 y] w fun e w' => e = .returned (.tuple #[]) ∧ w' = w.setCell ⟨b, o, none⟩ (.int .i64 y) := by
  have h := run_call_store (P := Yba.prog) Yba.func32 (by kernel_rfl) (by kernel_rfl) (by kernel_rfl) (by kernel_rfl) (k := .i64) (y := y) hc hz
  go_enter Yba.func18, Yba.ntmps18
  go_wp2
  go_end0
  exact ⟨rfl, rfl⟩
theorem uadd (b o : Nat) (x y : Int) (w : World) (hc : w.cell? ⟨b, o, none⟩ = some (.int .u32 x)) (hz : w.frozen? ⟨b, o, none⟩ = false) : Calls Yba.prog 35 #[.pointer (some ⟨b, o, none⟩), .int .u32 y] w fun e w' => e = .returned (.int .u32 ((x + y) % 4294967296)) ∧ w' = w.setCell ⟨b, o, none⟩ (.int .u32 ((x + y) % 4294967296)) := by
  have h := run_call_add (P := Yba.prog) Yba.func55 (by kernel_rfl) (by kernel_rfl) (by kernel_rfl) .u32 (by kernel_rfl) (y := y) (s := (x + y) % 4294967296) hc hz (by simp [go_sem, IntKind.wrap_u32])
  go_enter Yba.func35, Yba.ntmps35
  go_wp2
  go_ret
  exact ⟨rfl, rfl⟩
set_option maxRecDepth 100000 in
set_option maxHeartbeats 1600000 in
/-- (*sync.Mutex).Lock, the lock free. -/
theorem lockf (b o : Nat) (w : World) (hc : w.cell? ⟨b, o, none⟩ = some (.int .i32 0)) (hz : w.frozen? ⟨b, o, none⟩ = false) : Calls Yba.prog 19 #[.pointer (some ⟨b, o, none⟩)] w fun e w' => e = .returned (.tuple #[]) ∧ w' = w.setCell ⟨b, o, none⟩ (.int .i32 1) := by
  have hd := disable
  have he := enable
  have ha := acquire
  have hcas := run_call_cas_hit (P := Yba.prog) Yba.func39 (by kernel_rfl) (by kernel_rfl) (by kernel_rfl) .i32 (by kernel_rfl) (y := 1) hc hz
  have h0' : (w.setCell ⟨b, o, none⟩ (.int .i32 1)).cell? ⟨b, o, none⟩ = some (.int .i32 1) := by simp [go_sem, hc]
  have hcv := run_convert_to_unsafe (P := Yba.prog) (src := 95) (dst := 99) Yba.underlying95 Yba.underlying99 (by kernel_rfl) h0'
  go_enter Yba.func19, Yba.ntmps19
  go_wp2
  first | go_end0 | (simp only [Exit.inBlock, Exit.then]; refine bodyPost_ret (results_none rfl _ _ _) rfl ?_) | refine bodyPost_ret (results_none rfl _ _ _) rfl ?_
  go_wp2
  go_end0
  exact ⟨rfl, rfl⟩
set_option maxRecDepth 100000 in
set_option maxHeartbeats 1600000 in
/-- (*sync.Mutex).Unlock, the lock held, nobody waiting. -/
theorem unlockf (b o : Nat) (w : World) (hc : w.cell? ⟨b, o, none⟩ = some (.int .i32 1)) (hz : w.frozen? ⟨b, o, none⟩ = false) : Calls Yba.prog 9 #[.pointer (some ⟨b, o, none⟩)] w fun e w' => e = .returned (.tuple #[]) ∧ w' = w.setCell ⟨b, o, none⟩ (.int .i32 0) := by
  have hd := disable
  have he := enable
  have hr := releaseMerge
  have hcv := run_convert_to_unsafe (P := Yba.prog) (src := 95) (dst := 99) Yba.underlying95 Yba.underlying99 (by kernel_rfl) hc
  have hadd := run_call_add (P := Yba.prog) Yba.func42 (by kernel_rfl) (by kernel_rfl) (by kernel_rfl) .i32 (by kernel_rfl) (y := -1) (s := 0) hc hz (by simp [go_sem]; rfl)
  go_enter Yba.func9, Yba.ntmps9
  go_wp2
  go_end0
  go_wp2
  go_end0
  exact ⟨rfl, rfl⟩
set_option maxRecDepth 100000 in
set_option maxHeartbeats 1600000 in
/-- (*sync.Mutex).TryLock, the lock free. -/
theorem tryf (b o : Nat) (w : World) (hc : w.cell? ⟨b, o, none⟩ = some (.int .i32 0)) (hz : w.frozen? ⟨b, o, none⟩ = false) : Calls Yba.prog 8 #[.pointer (some ⟨b, o, none⟩)] w fun e w' => e = .returned (.bool true) ∧ w' = w.setCell ⟨b, o, none⟩ (.int .i32 1) := by
  have hd := disable
  have he := enable
  have ha := acquire
  have hb1 : bits BinOp.and IntKind.i32 0 5 = 0 := by decide
  have hb2 : bits BinOp.or IntKind.i32 0 1 = 1 := by decide
  have hcas := run_call_cas_hit (P := Yba.prog) Yba.func39 (by kernel_rfl) (by kernel_rfl) (by kernel_rfl) .i32 (by kernel_rfl) (y := 1) hc hz
  have h0' : (w.setCell ⟨b, o, none⟩ (.int .i32 1)).cell? ⟨b, o, none⟩ = some (.int .i32 1) := by simp [go_sem, hc]
  have hcv := run_convert_to_unsafe (P := Yba.prog) (src := 95) (dst := 99) Yba.underlying95 Yba.underlying99 (by kernel_rfl) h0'
  go_enter Yba.func8, Yba.ntmps8
  go_wp2
  go_ret
  exact ⟨rfl, rfl⟩
theorem empty_nil (b o : Nat) (w : World) (hc : w.cell? ⟨b, o, none⟩ = some (.pointer none)) : Calls Yba.prog 20 #[.pointer (some ⟨b, o, none⟩)] w fun e w' => e = .returned (.bool true) ∧ w' = w := by
  go_enter Yba.func20, Yba.ntmps20
  go_wp2
  go_ret
  exact ⟨rfl, rfl⟩
theorem empty_not (b o : Nat) (a : Addr) (w : World) (hc : w.cell? ⟨b, o, none⟩ = some (.pointer (some a))) : Calls Yba.prog 20 #[.pointer (some ⟨b, o, none⟩)] w fun e w' => e = .returned (.bool false) ∧ w' = w := by
  go_enter Yba.func20, Yba.ntmps20
  go_wp2
  go_ret
  exact ⟨rfl, rfl⟩
end Go.Proofs.Ybulkdfim
