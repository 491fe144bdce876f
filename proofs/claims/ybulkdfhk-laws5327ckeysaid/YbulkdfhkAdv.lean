/-
  The two laws' own boxes; LawS5327CAdvance (4): the walk.
-/
import Derived.Test.YbulkdfhkEq
namespace Go.Proofs.Ybulkdfhk
open Go.RowKit

/-- The 8 words y lie in block X. -/
structure Key (w : World) (X : Nat) (y : Nat → Int) : Prop where
  cell : ∀ i, i < 8 → w.cell? ⟨X, i, none⟩ = some (.int .u32 (y i))
theorem Key.lt {w : World} {X : Nat} {y : Nat → Int} (h : Key w X y) : X < w.heap.size := lt_of_cell (h.cell 0 (by omega))
theorem Key.kp {w w' : World} {X : Nat} {y : Nat → Int} (h : Key w X y) {T : List Nat} (k : Kp T w w') (hn : X ∉ T) : Key w' X y :=
  ⟨fun i hi => (k.cell h.lt hn).trans (h.cell i hi)⟩
abbrev arr16 (s : Nat → Int) : Array Value := #[.int .u32 (s 0), .int .u32 (s 1), .int .u32 (s 2), .int .u32 (s 3), .int .u32 (s 4), .int .u32 (s 5), .int .u32 (s 6), .int .u32 (s 7), .int .u32 (s 8), .int .u32 (s 9), .int .u32 (s 10), .int .u32 (s 11), .int .u32 (s 12), .int .u32 (s 13), .int .u32 (s 14), .int .u32 (s 15)]
abbrev arr8 (y : Nat → Int) : Array Value := #[.int .u32 (y 0), .int .u32 (y 1), .int .u32 (y 2), .int .u32 (y 3), .int .u32 (y 4), .int .u32 (y 5), .int .u32 (y 6), .int .u32 (y 7)]
theorem free_new (w : World) (c : Array Value) (t : TypeId) (i : Nat) : (w.alloc (.cells c t)).frozen? ⟨w.heap.size, i, none⟩ = false := by
  simp only [World.frozen?, World.alloc, Array.getElem?_push_size]; simp
theorem arr_new (w : World) (t : TypeId) (s : Nat → Int) : Arr (w.alloc (.cells (arr16 s) t)) w.heap.size s := by
  refine ⟨fun i hi => ?_, fun i _ => free_new w _ t i⟩
  rw [World.cell?_alloc_new]
  have h : i = 0 ∨ i = 1 ∨ i = 2 ∨ i = 3 ∨ i = 4 ∨ i = 5 ∨ i = 6 ∨ i = 7 ∨ i = 8 ∨ i = 9 ∨ i = 10 ∨ i = 11 ∨ i = 12 ∨ i = 13 ∨ i = 14 ∨ i = 15 := by omega
  rcases h with rfl | rfl | rfl | rfl | rfl | rfl | rfl | rfl | rfl | rfl | rfl | rfl | rfl | rfl | rfl | rfl <;> rfl
theorem key_new (w : World) (t : TypeId) (y : Nat → Int) : Key (w.alloc (.cells (arr8 y) t)) w.heap.size y := by
  refine ⟨fun i hi => ?_⟩
  rw [World.cell?_alloc_new]
  have h : i = 0 ∨ i = 1 ∨ i = 2 ∨ i = 3 ∨ i = 4 ∨ i = 5 ∨ i = 6 ∨ i = 7 := by omega
  rcases h with rfl | rfl | rfl | rfl | rfl | rfl | rfl | rfl <;> rfl
theorem mac_new (w : World) (t : TypeId) (x0 x1 x2 x3 x4 x5 x6 : Value) : Mac (w.alloc (.cells #[x0, x1, x2, x3, x4, x5, x6] t)) w.heap.size x0 x1 x2 x3 x4 x5 x6 ∧ Free7 (w.alloc (.cells #[x0, x1, x2, x3, x4, x5, x6] t)) w.heap.size :=
  ⟨⟨World.cell?_alloc_new _ _ _ _, World.cell?_alloc_new _ _ _ _, World.cell?_alloc_new _ _ _ _, World.cell?_alloc_new _ _ _ _, World.cell?_alloc_new _ _ _ _, World.cell?_alloc_new _ _ _ _, World.cell?_alloc_new _ _ _ _⟩, ⟨fun i _ => free_new w _ t i⟩⟩
theorem Free7.kp {w w' : World} {X : Nat} (h : Free7 w X) (hX : X < w.heap.size) {T : List Nat} (k : Kp T w w') (hn : X ∉ T) : Free7 w' X := ⟨fun i hi => (k.frozen (p := ⟨X, i, none⟩) hX hn).trans (h.free i hi)⟩

theorem boxes (w : World) (s y : Nat → Int) :
    ∃ W, (((((w.alloc (.cells (arr16 s) 23)).alloc (.cells (arr8 y) 24)).alloc (.cells (arr8 y) 30)).alloc (.cells #[.int .u64 0, .int .u64 0, .int .u64 0, .int .u64 0, .int .u64 0, .int .u64 0, .int .u64 0] 32)).alloc (.cells (arr16 s) 23)) = W ∧ Below w.heap.size w W ∧
      W.heap.size = w.heap.size + 5 ∧ Arr W w.heap.size s ∧ Key W (w.heap.size + 1) y ∧ Key W (w.heap.size + 1 + 1) y ∧ Mac W (w.heap.size + 1 + 1 + 1) (.int .u64 0) (.int .u64 0) (.int .u64 0) (.int .u64 0) (.int .u64 0) (.int .u64 0) (.int .u64 0) ∧ Free7 W (w.heap.size + 1 + 1 + 1) ∧ Arr W (w.heap.size + 1 + 1 + 1 + 1) s := by
  refine ⟨_, rfl, ?_, by simp, ?_, ?_, ?_, ?_, ?_, ?_⟩
  · exact (((((Below.refl w.heap.size w).alloc (Nat.le_refl _) _).alloc (by simp) _).alloc (by simp; omega) _).alloc (by simp; omega) _).alloc (by simp; omega) _
  · exact (arr_new w 23 s).kp (S := []) (((((Kp.refl [] _).alloc _).alloc _).alloc _).alloc _) (by simp)
  · exact (by simpa using key_new (w.alloc (.cells (arr16 s) 23)) 24 y : Key _ (w.heap.size + 1) y).kp (T := []) ((((Kp.refl [] _).alloc _).alloc _).alloc _) (by simp)
  · exact (by simpa using key_new ((w.alloc (.cells (arr16 s) 23)).alloc (.cells (arr8 y) 24)) 30 y : Key _ (w.heap.size + 1 + 1) y).kp (T := []) (((Kp.refl [] _).alloc _).alloc _) (by simp)
  · have h := (mac_new (((w.alloc (.cells (arr16 s) 23)).alloc (.cells (arr8 y) 24)).alloc (.cells (arr8 y) 30)) 32 (.int .u64 0) (.int .u64 0) (.int .u64 0) (.int .u64 0) (.int .u64 0) (.int .u64 0) (.int .u64 0)).1
    rw [World.size_alloc, World.size_alloc, World.size_alloc] at h
    exact h.kp (T := []) ((Kp.refl [] _).alloc _) (by simp)
  · have h := (mac_new (((w.alloc (.cells (arr16 s) 23)).alloc (.cells (arr8 y) 24)).alloc (.cells (arr8 y) 30)) 32 (.int .u64 0) (.int .u64 0) (.int .u64 0) (.int .u64 0) (.int .u64 0) (.int .u64 0) (.int .u64 0)).2
    rw [World.size_alloc, World.size_alloc, World.size_alloc] at h
    exact h.kp (by simp) (T := []) ((Kp.refl [] _).alloc _) (by simp)
  · have h := arr_new ((((w.alloc (.cells (arr16 s) 23)).alloc (.cells (arr8 y) 24)).alloc (.cells (arr8 y) 30)).alloc (.cells #[.int .u64 0, .int .u64 0, .int .u64 0, .int .u64 0, .int .u64 0, .int .u64 0, .int .u64 0] 32)) 23 s
    rw [World.size_alloc, World.size_alloc, World.size_alloc, World.size_alloc] at h
    exact h

set_option maxRecDepth 100000 in
set_option maxHeartbeats 4000000 in
theorem adv (s y : Nat → Int) (w : World) :
    Calls Yba.prog 4 #[.agg (arr16 s), .agg (arr8 y)] w fun e w' => e = .returned (.bool true) ∧ Below w.heap.size w w' := by
  obtain ⟨W, HW0, hbel, hsz, hA0, hY1, hY2, hMac, hFree, hA4⟩ := boxes w s y
  have HW : Hid (_ = W) := HW0
  clear HW0
  go_enter Yba.func4, Yba.ntmps4
  go_wp2_with fail
  rw [HW.out]
  have hN0 : ∃ N, Hid (w.heap.size = N) := ⟨_, rfl⟩
  obtain ⟨N, hN⟩ := hN0
  rw [hN.out] at hbel hsz hA0 hY1 hY2 hMac hFree hA4 ⊢
  refine (mk _ _ _ s _ _ _ _ _ _ _ W hA4 hMac hFree (by omega)).mono ?_
  rintro e w1 ⟨rfl, hA4', hMac', hK⟩
  have bel : Below N W w1 := hK.below (by omega) (by intro q hq; simp at hq; omega)
  have hA0' := hA0.kp hK (by simp; omega)
  have hY1' := hY1.kp hK (by simp)
  have hY2' := hY2.kp hK (by simp)
  clear HW hK hA0 hY1 hY2 hMac hFree hA4 hMac'
  go_wp2
  go_loop [8] (fun i => ∃ k : Nat, k ≤ 16 ∧ i = .int .i64 k) (fun i => 16 - (intOf i).toNat)
  case atStart => exact ⟨0, by omega, rfl⟩
  case round =>
    obtain ⟨k, hk, rfl⟩ := hrel
    by_cases hlt : k < 16
    · have c0 := hA0'.cell k hlt
      have c4 := hA4'.cell k hlt
      by_cases h12 : k = 12
      · subst h12
        have e12 : put s 12 ((s 12 + 1) % 4294967296) 12 = (s 12 + 1) % 4294967296 := by simp [put]
        rw [e12] at c4
        clear e12
        go_wp2
        go_round
        case rel => exact ⟨13, by omega, rfl⟩
        case measure => simp [intOf]
      · have e12 : put s 12 ((s 12 + 1) % 4294967296) k = s k := by simp [put, h12]
        rw [e12] at c4
        clear e12
        have hb : ((k : Int) == 12) = false := by simp; omega
        go_wp2
        go_round
        case rel => exact ⟨k + 1, by omega, by go_num⟩
        case measure => simp [intOf]; omega
    · have d0 := hY1'.cell 0 (by omega)
      have d1 := hY1'.cell 1 (by omega)
      have d2 := hY1'.cell 2 (by omega)
      have d3 := hY1'.cell 3 (by omega)
      have d4 := hY1'.cell 4 (by omega)
      have d5 := hY1'.cell 5 (by omega)
      have d6 := hY1'.cell 6 (by omega)
      have d7 := hY1'.cell 7 (by omega)
      have g0 := hY2'.cell 0 (by omega)
      have g1 := hY2'.cell 1 (by omega)
      have g2 := hY2'.cell 2 (by omega)
      have g3 := hY2'.cell 3 (by omega)
      have g4 := hY2'.cell 4 (by omega)
      have g5 := hY2'.cell 5 (by omega)
      have g6 := hY2'.cell 6 (by omega)
      have g7 := hY2'.cell 7 (by omega)
      have he := eq8 y
      go_wp2
      go_quiet (fail)
      go_wp2
      go_ret
      have b := hbel.trans bel
      exact ⟨rfl, by rw [hN.out]; exact ⟨b.os, b.tape, b.output, b.size, b.block⟩⟩
end Go.Proofs.Ybulkdfhk
