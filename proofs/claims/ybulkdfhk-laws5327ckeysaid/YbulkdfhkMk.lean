/-
  (*chacha20Poly1305).macKey (5).
-/
import Derived.Test.YbulkdfhkCb
import Derived.Test.YbulkdfhkIn
import Derived.Lib.SliceRun
namespace Go.Proofs.Ybulkdfhk
open Go.RowKit

theorem Kp.fresh {w w' : World} {o : Obj} (k : Kp [w.heap.size] (w.alloc o) w') : Kp [] w w' :=
  ⟨k.os, k.tape, k.output, Nat.le_trans (by simp) k.size, fun i hi _ => (k.block i (by simp; omega) (by simp; omega)).trans (Below.heap_alloc _ _ _ hi)⟩
theorem zeros_byt (w : World) : Byt (w.alloc (.cells (Array.replicate 64 (.int .u8 0)) 40)) w.heap.size (fun _ => 0) := by
  refine ⟨fun i hi => ?_, fun i hi => ?_⟩
  · rw [World.cell?_alloc_new, Array.getElem?_replicate, if_pos hi]
  · simp only [World.frozen?, World.alloc, Array.getElem?_push_size]; simp
structure Free7 (w : World) (M : Nat) : Prop where
  free : ∀ i, i < 7 → w.frozen? ⟨M, i, none⟩ = false
theorem Mac.lt {w : World} {M : Nat} {x0 x1 x2 x3 x4 x5 x6 : Value} (h : Mac w M x0 x1 x2 x3 x4 x5 x6) : M < w.heap.size := lt_of_cell h.c0
theorem Mac.kp {w w' : World} {M : Nat} {x0 x1 x2 x3 x4 x5 x6 : Value} (h : Mac w M x0 x1 x2 x3 x4 x5 x6) {T : List Nat} (k : Kp T w w') (hn : M ∉ T) : Mac w' M x0 x1 x2 x3 x4 x5 x6 :=
  ⟨(k.cell h.lt hn).trans h.c0, (k.cell h.lt hn).trans h.c1, (k.cell h.lt hn).trans h.c2, (k.cell h.lt hn).trans h.c3, (k.cell h.lt hn).trans h.c4, (k.cell h.lt hn).trans h.c5, (k.cell h.lt hn).trans h.c6⟩
theorem Byt.b32 {w : World} {G : Nat} {f : Nat → Int} (h : Byt w G f) : B32 w G f := ⟨fun i hi => h.cell i (by omega)⟩
theorem byteOf_range (W : Nat → Int) (i : Nat) : 0 ≤ byteOf W i ∧ byteOf W i < 256 := by unfold byteOf; omega

set_option maxRecDepth 100000 in
set_option maxHeartbeats 4000000 in
theorem mk (A : Value) (M S : Nat) (s : Nat → Int) (m0 m1 m2 m3 m4 m5 m6 : Value) (w : World) (hS : Arr w S s) (hM : Mac w M m0 m1 m2 m3 m4 m5 m6) (hF : Free7 w M) (hne : S ≠ M) :
    Calls Yba.prog 5 #[A, .pointer (some ⟨M, 0, none⟩), .pointer (some ⟨S, 0, none⟩)] w fun e w' => e = .returned (.tuple #[]) ∧ Arr w' S (put s 12 ((s 12 + 1) % 4294967296)) ∧
      Mac w' M (.int .u64 0) (.int .u64 0) (.int .u64 0) (.int .u64 (keyR0 (byteOf (blk s)))) (.int .u64 (keyR1 (byteOf (blk s)))) (.int .u64 (keyS0 (byteOf (blk s)))) (.int .u64 (keyS1 (byteOf (blk s)))) ∧ Kp [S, M] w w' := by
  have lS := hS.lt
  have lM := hM.lt
  go_enter Yba.func5, Yba.ntmps5
  go_wp2_with fail
  refine (cb w.heap.size S s _ (fun _ => 0) (hS.kp ((Kp.refl [] w).alloc _) (by simp)) (zeros_byt w) (by omega)).mono ?_
  rintro e w2 ⟨rfl, hB, hK⟩
  have hK0 : Kp [] w w2 := hK.fresh
  have lG : w.heap.size < w2.heap.size := hB.lt
  have hS2 := hS.kp hK0 (by simp)
  have hM2 := hM.kp hK0 (by simp)
  have hF2 : ∀ i, i < 7 → w2.frozen? ⟨M, i, none⟩ = false := fun i hi => (hK0.frozen (p := ⟨M, i, none⟩) lM (by simp)).trans (hF.free i hi)
  have c12 := hS2.cell 12 (by omega)
  have f12 := hS2.free 12 (by omega)
  have eG : w.heap.size = w.heap.size := rfl
  generalize hg : w.heap.size = G at *
  have lG' : w.heap.size = G := hg
  clear hK hg eG
  go_wp2_with fail
  refine still_tail 7 mixed (by kernel_rfl) ?_
  simp only [List.take_succ_cons, List.take_zero, List.drop_succ_cons, List.drop_zero]
  repeat still_step
  refine wpStill_nil ?_
  go_wp2_with fail
  clear c12 f12
  have hS3 : Arr (w2.setCell ⟨S, 12, none⟩ (.int .u32 ((s 12 + 1) % 4294967296))).drew S (put s 12 ((s 12 + 1) % 4294967296)) := (hS2.set (by omega) _).drew
  have hK3 : Kp [S] w2 (w2.setCell ⟨S, 12, none⟩ (.int .u32 ((s 12 + 1) % 4294967296))).drew := ((Kp.refl [S] w2).setCell (p := ⟨S, 12, none⟩) (by simp) _).drew
  generalize (w2.setCell ⟨S, 12, none⟩ (.int .u32 ((s 12 + 1) % 4294967296))).drew = w3 at *
  have hB3 := hB.kp hK3 (by simp; omega)
  have hM3 := hM2.kp hK3 (by simp; omega)
  have hF3 : ∀ i, i < 7 → w3.frozen? ⟨M, i, none⟩ = false := fun i hi => (hK3.frozen (p := ⟨M, i, none⟩) hM2.lt (by simp; omega)).trans (hF2 i hi)
  refine (init_any G M (byteOf (blk s)) m0 m1 m2 m3 m4 m5 m6 w3 (byteOf_range _) (by omega) ⟨hB3.b32, Kp.refl _ _, hM3.c0, hM3.c1, hM3.c2, hM3.c3, hM3.c4, hM3.c5, hM3.c6,
    hF3 0 (by omega), hF3 1 (by omega), hF3 2 (by omega), hF3 3 (by omega), hF3 4 (by omega), hF3 5 (by omega), hF3 6 (by omega)⟩).mono ?_
  rintro e w4 ⟨rfl, hM4, hK4⟩
  have hS4 := hS3.kp hK4 (by simpa using hne)
  have hB4 := hB3.kp hK4 (by simp; omega)
  have hcl : ∀ ty, (Builtin.clear_ #[44] ty #[.slice (some ⟨G, 0, none⟩) 64 64]).run Yba.prog w4 = .ok (.tuple #[]) (w4.setCells G 0 (List.replicate 64 (.int .u8 0))) := fun ty =>
    Lib.run_clear_slice w4 44 5 ty (.int .u8 0) Yba.underlying44 (fun _ => by kernel_rfl) rfl rfl G 0 64 64 (by omega) (fun j hj => by rw [Nat.zero_add, hB4.cell j hj]; rfl) (fun j hj => by rw [Nat.zero_add]; exact hB4.free j hj)
  clear hB3 hM3 hF3 hB hM2 hF2
  have hK5 : Kp [G] w4 (w4.setCells G 0 (List.replicate 64 (.int .u8 0))) := Kp.setCells (by simp) _ _ (Kp.refl _ _)
  generalize w4.setCells G 0 (List.replicate 64 (.int .u8 0)) = w5 at *
  go_wp2
  go_end0
  have lS4 := hS4.lt
  refine ⟨rfl, hS4.kp hK5 (by simp; omega), hM4.kp hK5 (by simp; omega), ?_⟩
  have k1 : Kp [S, M, G] w w5 := (((hK0.mono (T := [S, M, G]) (by simp)).trans (hK3.mono (T := [S, M, G]) (by simp))).trans (hK4.mono (T := [S, M, G]) (by simp))).trans (hK5.mono (T := [S, M, G]) (by simp))
  exact ⟨k1.os, k1.tape, k1.output, k1.size, fun i hi hn => k1.block i hi (by simp at hn ⊢; omega)⟩
end Go.Proofs.Ybulkdfhk
