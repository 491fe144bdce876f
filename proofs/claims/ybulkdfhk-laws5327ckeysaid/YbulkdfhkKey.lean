/-
  LawS5327CKey (3): the walk.
-/
import Derived.Test.YbulkdfhkZb
import Derived.Test.YbulkdfhkPlain
namespace Go.Proofs.Ybulkdfhk
open Go.RowKit

abbrev mac7 (m : Nat → Int) : Array Value := #[.int .u64 (m 0), .int .u64 (m 1), .int .u64 (m 2), .int .u64 (m 3), .int .u64 (m 4), .int .u64 (m 5), .int .u64 (m 6)]

theorem boxesK (w : World) (s y m : Nat → Int) :
    ∃ W, ((((((w.alloc (.cells (arr16 s) 23)).alloc (.cells (arr8 y) 24)).alloc (.cells (mac7 m) 27)).alloc (.cells (arr8 y) 30)).alloc (.cells (mac7 m) 32)).alloc (.cells (arr16 s) 23)) = W ∧ Below w.heap.size w W ∧
      W.heap.size = w.heap.size + 6 ∧ Arr W w.heap.size s ∧ Mac W (w.heap.size + 1 + 1 + 1 + 1) (.int .u64 (m 0)) (.int .u64 (m 1)) (.int .u64 (m 2)) (.int .u64 (m 3)) (.int .u64 (m 4)) (.int .u64 (m 5)) (.int .u64 (m 6)) ∧ Free7 W (w.heap.size + 1 + 1 + 1 + 1) ∧ Arr W (w.heap.size + 1 + 1 + 1 + 1 + 1) s := by
  refine ⟨_, rfl, ?_, by simp, ?_, ?_, ?_, ?_⟩
  · exact ((((((Below.refl w.heap.size w).alloc (Nat.le_refl _) _).alloc (by simp) _).alloc (by simp; omega) _).alloc (by simp; omega) _).alloc (by simp; omega) _).alloc (by simp; omega) _
  · exact (arr_new w 23 s).kp (S := []) ((((((Kp.refl [] _).alloc _).alloc _).alloc _).alloc _).alloc _) (by simp)
  · have h := (mac_new ((((w.alloc (.cells (arr16 s) 23)).alloc (.cells (arr8 y) 24)).alloc (.cells (mac7 m) 27)).alloc (.cells (arr8 y) 30)) 32 (.int .u64 (m 0)) (.int .u64 (m 1)) (.int .u64 (m 2)) (.int .u64 (m 3)) (.int .u64 (m 4)) (.int .u64 (m 5)) (.int .u64 (m 6))).1
    rw [World.size_alloc, World.size_alloc, World.size_alloc, World.size_alloc] at h
    exact h.kp (T := []) ((Kp.refl [] _).alloc _) (by simp)
  · have h := (mac_new ((((w.alloc (.cells (arr16 s) 23)).alloc (.cells (arr8 y) 24)).alloc (.cells (mac7 m) 27)).alloc (.cells (arr8 y) 30)) 32 (.int .u64 (m 0)) (.int .u64 (m 1)) (.int .u64 (m 2)) (.int .u64 (m 3)) (.int .u64 (m 4)) (.int .u64 (m 5)) (.int .u64 (m 6))).2
    rw [World.size_alloc, World.size_alloc, World.size_alloc, World.size_alloc] at h
    exact h.kp (by simp) (T := []) ((Kp.refl [] _).alloc _) (by simp)
  · have h := arr_new (((((w.alloc (.cells (arr16 s) 23)).alloc (.cells (arr8 y) 24)).alloc (.cells (mac7 m) 27)).alloc (.cells (arr8 y) 30)).alloc (.cells (mac7 m) 32)) 23 s
    rw [World.size_alloc, World.size_alloc, World.size_alloc, World.size_alloc, World.size_alloc] at h
    exact h

/-- What the law's tests read. -/
structure Fine (N : Nat) (w : World) (X : Nat) (s : Nat → Int) (w3 : World) : Prop where
  mac : Mac w3 (N + 1 + 1 + 1 + 1) (.int .u64 0) (.int .u64 0) (.int .u64 0) (.int .u64 (bits BinOp.and IntKind.u64 (pr (blk s 0) (blk s 1)) 1152921487695413247)) (.int .u64 (bits BinOp.and IntKind.u64 (pr (blk s 2) (blk s 3)) 1152921487695413244)) (.int .u64 (pr (blk s 4) (blk s 5))) (.int .u64 (pr (blk s 6) (blk s 7)))
  arr : Arr w3 X (blk s)
  bel : Below N w w3
theorem Fine.drewN {N : Nat} {w : World} {X : Nat} {s : Nat → Int} {w3 : World} (h : Fine N w X s w3) (n : Nat) : Fine N w X s (w3.drewN n) :=
  ⟨h.mac.kp ((Kp.refl [] w3).drewN n) (by simp), h.arr.drewN n, ⟨h.bel.os, h.bel.tape, h.bel.output, h.bel.size, h.bel.block⟩⟩

set_option maxRecDepth 100000 in
set_option maxHeartbeats 4000000 in
theorem key (s y m : Nat → Int) (w : World) :
    Calls Yba.prog 3 #[.agg (arr16 s), .agg (arr8 y), .agg (mac7 m)] w fun e w' => e = .returned (.bool true) ∧ Below w.heap.size w w' := by
  obtain ⟨W, HW0, hbel, hsz, hA0, hMac, hFree, hA5⟩ := boxesK w s y m
  have HW : Hid (_ = W) := HW0
  clear HW0
  go_enter Yba.func3, Yba.ntmps3
  go_wp2_with fail
  rw [HW.out]
  have hN0 : ∃ N, Hid (w.heap.size = N) := ⟨_, rfl⟩
  obtain ⟨N, hN⟩ := hN0
  rw [hN.out] at hbel hsz hA0 hMac hFree hA5 ⊢
  refine (mk _ _ _ s _ _ _ _ _ _ _ W hA5 hMac hFree (by omega)).mono ?_
  rintro e w1 ⟨rfl, hA5', hMac', hK⟩
  have bel : Below N W w1 := hK.below (by omega) (by intro q hq; simp at hq; omega)
  have hA0' := hA0.kp hK (by simp; omega)
  clear HW hK hA0 hMac hFree hA5 hA5'
  have b1 := hbel.trans bel
  clear hbel bel
  rw [keyR0_eq, keyR1_eq, keyS0_eq, keyS1_eq] at hMac'
  have a0 := hA0'.cell 0 (by omega)
  have a1 := hA0'.cell 1 (by omega)
  have a2 := hA0'.cell 2 (by omega)
  have a3 := hA0'.cell 3 (by omega)
  have a4 := hA0'.cell 4 (by omega)
  have a5 := hA0'.cell 5 (by omega)
  have a6 := hA0'.cell 6 (by omega)
  have a7 := hA0'.cell 7 (by omega)
  have a8 := hA0'.cell 8 (by omega)
  have a9 := hA0'.cell 9 (by omega)
  have a10 := hA0'.cell 10 (by omega)
  have a11 := hA0'.cell 11 (by omega)
  have a12 := hA0'.cell 12 (by omega)
  have a13 := hA0'.cell 13 (by omega)
  have a14 := hA0'.cell 14 (by omega)
  have a15 := hA0'.cell 15 (by omega)
  go_wp2_with fail
  clear a0 a1 a2 a3 a4 a5 a6 a7 a8 a9 a10 a11 a12 a13 a14 a15
  refine (zb s w1).mono ?_
  rintro e w2 ⟨rfl, hK2⟩
  have hMac2 := hMac'.kp hK2 (by simp)
  have lN : N ≤ w2.heap.size := by have := hMac2.lt; omega
  have b2 : Below N w w2 := b1.trans (hK2.below (by have := hMac'.lt; omega) (by simp))
  have c0 := fun o => cell_old o hMac2.c0
  have c1 := fun o => cell_old o hMac2.c1
  have c2 := fun o => cell_old o hMac2.c2
  have c3 := fun o => cell_old o hMac2.c3
  have c4 := fun o => cell_old o hMac2.c4
  have c5 := fun o => cell_old o hMac2.c5
  have c6 := fun o => cell_old o hMac2.c6
  have b3 := b2.alloc lN (.cells (arr16 (blk s)) 23)
  have hF : Fine N w w2.heap.size s (w2.alloc (.cells (arr16 (blk s)) 23)) := ⟨hMac2.kp ((Kp.refl [] w2).alloc _) (by simp), arr_new w2 23 (blk s), b3⟩
  clear b1 b2 hMac' hMac2 hK2 hA0' lN
  go_wp2_with fail
  go_quiet ((go_at_call 7; exact Calls.quiet_of_same (pair_any _ _ _)))
  clear c0 c1 c2 c3 c4 c5 c6
  generalize hw3 : World.drewN (w2.alloc _) _ = w3
  have f3 : Fine N w w2.heap.size s w3 := by subst hw3; exact hF.drewN _
  clear hw3
  obtain ⟨X, HX⟩ : ∃ X, Hid (w2.heap.size = X) := ⟨_, rfl⟩
  rw [HX.out] at f3 ⊢
  clear HX hF b3
  have c0 := f3.mac.c0
  have c1 := f3.mac.c1
  have c2 := f3.mac.c2
  have c3 := f3.mac.c3
  have c4 := f3.mac.c4
  have c5 := f3.mac.c5
  have c6 := f3.mac.c6
  have x0 := f3.arr.cell 0 (by omega)
  have x1 := f3.arr.cell 1 (by omega)
  have x2 := f3.arr.cell 2 (by omega)
  have x3 := f3.arr.cell 3 (by omega)
  have x4 := f3.arr.cell 4 (by omega)
  have x5 := f3.arr.cell 5 (by omega)
  have x6 := f3.arr.cell 6 (by omega)
  have x7 := f3.arr.cell 7 (by omega)
  go_wp2_with fail
  go_quiet ((go_at_call 7; exact Calls.quiet_of_same (pair_any _ _ _)))
  clear c0 c1 c2 c3 c4 c5 c6 x0 x1 x2 x3 x4 x5 x6 x7
  generalize hw4 : World.drewN w3 _ = w4
  have f4 : Fine N w X s w4 := by subst hw4; exact f3.drewN _
  clear hw4 f3
  have c0 := f4.mac.c0
  have c1 := f4.mac.c1
  have c2 := f4.mac.c2
  have c3 := f4.mac.c3
  have c4 := f4.mac.c4
  have c5 := f4.mac.c5
  have c6 := f4.mac.c6
  have x0 := f4.arr.cell 0 (by omega)
  have x1 := f4.arr.cell 1 (by omega)
  have x2 := f4.arr.cell 2 (by omega)
  have x3 := f4.arr.cell 3 (by omega)
  have x4 := f4.arr.cell 4 (by omega)
  have x5 := f4.arr.cell 5 (by omega)
  have x6 := f4.arr.cell 6 (by omega)
  have x7 := f4.arr.cell 7 (by omega)
  go_wp2_with fail
  go_quiet ((go_at_call 7; exact Calls.quiet_of_same (pair_any _ _ _)))
  clear c0 c1 c2 c3 c4 c5 c6 x0 x1 x2 x3 x4 x5 x6 x7
  go_wp2
  go_ret
  have b := f4.bel
  exact ⟨rfl, by rw [hN.out]; exact ⟨b.os, b.tape, b.output, b.size, b.block⟩⟩
end Go.Proofs.Ybulkdfhk
