/-
  zzs5327cblock (6).
-/
import Derived.Test.YbulkdfhkAdv
namespace Go.Proofs.Ybulkdfhk
open Go.RowKit

theorem qmI (X a b c d : Nat) (ia ib ic id : Int) (ea : ia = a) (eb : ib = b) (ec : ic = c) (ed : id = d) (s : Nat → Int) (w : World) (hA : Arr w X s)
    (h : (a < 16 ∧ b < 16 ∧ c < 16 ∧ d < 16) ∧ a ≠ b ∧ a ≠ c ∧ a ≠ d ∧ b ≠ c ∧ b ≠ d ∧ c ≠ d) :
    Calls Yba.prog 10 #[.pointer (some ⟨X, 0, none⟩), .int .i64 ia, .int .i64 ib, .int .i64 ic, .int .i64 id] w fun e w' => e = .returned (.tuple #[]) ∧ Arr w' X (upd s a b c d) ∧ Kp [X] w w' := by
  subst ea eb ec ed
  obtain ⟨⟨h1, h2, h3, h4⟩, h5, h6, h7, h8, h9, h10⟩ := h
  exact qmArr X a b c d s w h1 h2 h3 h4 hA h5 h6 h7 h8 h9 h10

theorem boxes3 (w : World) (s : Nat → Int) :
    ∃ W, ((w.alloc (.cells (arr16 s) 23)).alloc (.cells #[.int .u32 0, .int .u32 0, .int .u32 0, .int .u32 0, .int .u32 0, .int .u32 0, .int .u32 0, .int .u32 0, .int .u32 0, .int .u32 0, .int .u32 0, .int .u32 0, .int .u32 0, .int .u32 0, .int .u32 0, .int .u32 0] 23)).alloc (.cells (arr16 s) 23) = W ∧ Kp [] w W ∧ W.heap.size = w.heap.size + 3 ∧ Arr W w.heap.size s ∧ Arr W (w.heap.size + 1) (fun _ => 0) ∧ Arr W (w.heap.size + 1 + 1) s := by
  refine ⟨_, rfl, ((Kp.refl [] w).alloc _ |>.alloc _ |>.alloc _), by simp, ?_, ?_, ?_⟩
  · exact (arr_new w 23 s).kp (S := []) (((Kp.refl [] _).alloc _).alloc _) (by simp)
  · have h := arr_new (w.alloc (.cells (arr16 s) 23)) 23 (fun _ => 0)
    rw [World.size_alloc] at h
    exact h.kp (S := []) ((Kp.refl [] _).alloc _) (by simp)
  · have h := arr_new ((w.alloc (.cells (arr16 s) 23)).alloc (.cells #[.int .u32 0, .int .u32 0, .int .u32 0, .int .u32 0, .int .u32 0, .int .u32 0, .int .u32 0, .int .u32 0, .int .u32 0, .int .u32 0, .int .u32 0, .int .u32 0, .int .u32 0, .int .u32 0, .int .u32 0, .int .u32 0] 23)) 23 s
    rw [World.size_alloc, World.size_alloc] at h
    exact h

/-- Sixteen stores, one behind the other. -/
def set16 (w : World) (X : Nat) (v : Nat → Int) : World := [0, 1, 2, 3, 4, 5, 6, 7, 8, 9, 10, 11, 12, 13, 14, 15].foldl (fun w i => w.setCell ⟨X, i, none⟩ (.int .u32 (v i))) w
theorem arr_foldl (X : Nat) (v : Nat → Int) : ∀ (is : List Nat), (∀ i ∈ is, i < 16) → ∀ (w : World) (s : Nat → Int), Arr w X s →
    Arr (is.foldl (fun w i => w.setCell ⟨X, i, none⟩ (.int .u32 (v i))) w) X (fun j => if j ∈ is then v j else s j)
  | [], _, w, s, h => h.congr (fun j _ => by simp)
  | i :: is, hi, w, s, h => by
    have := arr_foldl X v is (fun j hj => hi j (by simp [hj])) _ _ (h.set (hi i (by simp)) (v i))
    refine this.congr (fun j _ => ?_)
    unfold put
    by_cases h1 : j ∈ is
    · simp [h1]
    · by_cases h2 : j = i
      · subst h2; simp
      · simp [h1, h2]
theorem Arr.set16 {w : World} {X : Nat} {s v : Nat → Int} (h : Arr w X s) : Arr (set16 w X v) X v := by
  refine (arr_foldl X v _ (by decide) w s h).congr (fun j hj => if_pos ?_)
  have h' : j = 0 ∨ j = 1 ∨ j = 2 ∨ j = 3 ∨ j = 4 ∨ j = 5 ∨ j = 6 ∨ j = 7 ∨ j = 8 ∨ j = 9 ∨ j = 10 ∨ j = 11 ∨ j = 12 ∨ j = 13 ∨ j = 14 ∨ j = 15 := by omega
  simpa using h'
theorem kp_foldl (X : Nat) (v : Nat → Int) : ∀ (is : List Nat) (a w : World), Kp [X] a w → Kp [X] a (is.foldl (fun w i => w.setCell ⟨X, i, none⟩ (.int .u32 (v i))) w)
  | [], _, _, h => h
  | i :: is, a, w, h => kp_foldl X v is a _ (h.setCell (p := ⟨X, i, none⟩) (by simp) _)
theorem kp_set16 (w : World) (X : Nat) (v : Nat → Int) : Kp [X] w (Ybulkdfhk.set16 w X v) := kp_foldl X v _ w w (Kp.refl _ _)

def sums (s : Nat → Int) (k j : Nat) : Int := if j < k then blk s j else rnd 10 s j
theorem sums_next (s : Nat → Int) (k i : Nat) : put (sums s k) k ((rnd 10 s k + s k) % 4294967296) i = sums s (k + 1) i := by
  unfold put sums
  by_cases h : i = k
  · subst h; rw [if_pos rfl, if_pos (by omega)]; rfl
  · rw [if_neg h]
    by_cases h' : i < k
    · rw [if_pos h', if_pos (by omega)]
    · rw [if_neg h', if_neg (by omega)]

set_option maxRecDepth 100000 in
set_option maxHeartbeats 4000000 in
theorem zb (s : Nat → Int) (w : World) :
    Calls Yba.prog 6 #[.agg (arr16 s)] w fun e w' => e = .returned (.agg (arr16 (blk s))) ∧ Kp [] w w' := by
  obtain ⟨W, HW0, hkp, hsz, hA0, hA1, hA2⟩ := boxes3 w s
  have HW : Hid (_ = W) := HW0
  clear HW0
  go_enter Yba.func6, Yba.ntmps6
  go_wp2_with fail
  rw [HW.out]
  clear HW
  obtain ⟨X, hX⟩ : ∃ X, Hid (w.heap.size + 1 + 1 = X) := ⟨_, rfl⟩
  obtain ⟨N, hN⟩ : ∃ N, Hid (w.heap.size = N) := ⟨_, rfl⟩
  rw [hX.out] at hA2 ⊢
  rw [hN.out] at hA0 hA1 ⊢
  have hne0 : N ≠ X := by have := hX.out; have := hN.out; omega
  have hne1 : N + 1 ≠ X := by have := hX.out; have := hN.out; omega
  go_loopw [4] (fun i wr => ∃ k : Nat, k ≤ 10 ∧ i = .int .i64 k ∧ Arr wr X (rnd k s) ∧ Kp [X] W wr) (fun i _ => 10 - (intOf i).toNat)
  case atStart => exact ⟨0, by omega, rfl, hA2, Kp.refl _ _⟩
  case round =>
    obtain ⟨k, hk, rfl, hA0', hK0⟩ := hrel
    by_cases hlt : k < 10
    · have hA0 := hA0'
      go_wp2_with fail
      refine (qmI X 0 4 8 12 0 4 8 12 rfl rfl rfl rfl _ _ hA0 (by decide)).mono ?_
      rintro e w1 ⟨rfl, hA1, hK1⟩
      go_wp2_with fail
      refine (qmI X 1 5 9 13 1 5 9 13 rfl rfl rfl rfl _ _ hA1 (by decide)).mono ?_
      rintro e w2 ⟨rfl, hA2, hK2⟩
      go_wp2_with fail
      refine (qmI X 2 6 10 14 2 6 10 14 rfl rfl rfl rfl _ _ hA2 (by decide)).mono ?_
      rintro e w3 ⟨rfl, hA3, hK3⟩
      go_wp2_with fail
      refine (qmI X 3 7 11 15 3 7 11 15 rfl rfl rfl rfl _ _ hA3 (by decide)).mono ?_
      rintro e w4 ⟨rfl, hA4, hK4⟩
      go_wp2_with fail
      refine (qmI X 0 5 10 15 0 5 10 15 rfl rfl rfl rfl _ _ hA4 (by decide)).mono ?_
      rintro e w5 ⟨rfl, hA5, hK5⟩
      go_wp2_with fail
      refine (qmI X 1 6 11 12 1 6 11 12 rfl rfl rfl rfl _ _ hA5 (by decide)).mono ?_
      rintro e w6 ⟨rfl, hA6, hK6⟩
      go_wp2_with fail
      refine (qmI X 2 7 8 13 2 7 8 13 rfl rfl rfl rfl _ _ hA6 (by decide)).mono ?_
      rintro e w7 ⟨rfl, hA7, hK7⟩
      go_wp2_with fail
      refine (qmI X 3 4 9 14 3 4 9 14 rfl rfl rfl rfl _ _ hA7 (by decide)).mono ?_
      rintro e w8 ⟨rfl, hA8, hK8⟩
      go_wp2
      go_roundw
      case rel => exact ⟨k + 1, by omega, by go_num, hA8, (((((((hK0.trans hK1).trans hK2).trans hK3).trans hK4).trans hK5).trans hK6).trans hK7).trans hK8⟩
      case measure => simp [intOf]; omega
    · have e10 : k = 10 := by omega
      rw [e10] at hA0'
      clear e10 hk
      obtain ⟨wo, rfl⟩ : ∃ wo : World, wo = wr := ⟨_, rfl⟩
      have hS := hA0.kp hK0 (by simpa using hne0)
      have hZ := hA1.kp hK0 (by simpa using hne1)
      clear hA0 hA1 hA2
      go_wp2
      clear hlt
      go_loopw [5] (fun i wr => ∃ k : Nat, k ≤ 16 ∧ i = .int .i64 k ∧ Arr wr X (sums s k) ∧ Kp [X] wo wr) (fun i _ => 16 - (intOf i).toNat)
      case atStart => exact ⟨0, by omega, rfl, hA0'.congr (fun i _ => by simp [sums]), Kp.refl _ _⟩
      case round =>
        obtain ⟨k, hk, rfl, hA, hK⟩ := hrel
        by_cases hlt : k < 16
        · have cX := hA.cell k hlt
          have fX := hA.free k hlt
          have cN := (hS.kp hK (by simpa using hne0)).cell k hlt
          have e1 : sums s k k = rnd 10 s k := by simp [sums]
          rw [e1] at cX
          clear e1
          go_wp2
          refine still_tail 8 mixed (by kernel_rfl) ?_
          simp only [List.take_succ_cons, List.take_zero, List.drop_succ_cons, List.drop_zero]
          repeat still_step
          refine wpStill_nil ?_
          go_wp2
          go_roundw
          case rel => exact ⟨k + 1, by omega, by go_num, (hA.set hlt _).drew.congr (fun i hi => sums_next s k i), (hK.setCell (p := ⟨X, k, none⟩) (by simp) _).drew⟩
          case measure => simp [intOf]; omega
        · have e16 : k = 16 := by omega
          rw [e16] at hA
          clear e16
          have hB : Arr wr X (blk s) := hA.congr (fun i hi => by simp [sums, hi])
          have hZ' := hZ.kp hK (by simpa using hne1)
          obtain ⟨w2, rfl⟩ : ∃ w2 : World, w2 = wr := ⟨_, rfl⟩
          clear hA hS hA0' hZ
          have x0 := hB.cell 0 (by omega)
          have z0 := hZ'.cell 0 (by omega)
          have f0 := hZ'.free 0 (by omega)
          have x1 := hB.cell 1 (by omega)
          have z1 := hZ'.cell 1 (by omega)
          have f1 := hZ'.free 1 (by omega)
          have x2 := hB.cell 2 (by omega)
          have z2 := hZ'.cell 2 (by omega)
          have f2 := hZ'.free 2 (by omega)
          have x3 := hB.cell 3 (by omega)
          have z3 := hZ'.cell 3 (by omega)
          have f3 := hZ'.free 3 (by omega)
          have x4 := hB.cell 4 (by omega)
          have z4 := hZ'.cell 4 (by omega)
          have f4 := hZ'.free 4 (by omega)
          have x5 := hB.cell 5 (by omega)
          have z5 := hZ'.cell 5 (by omega)
          have f5 := hZ'.free 5 (by omega)
          have x6 := hB.cell 6 (by omega)
          have z6 := hZ'.cell 6 (by omega)
          have f6 := hZ'.free 6 (by omega)
          have x7 := hB.cell 7 (by omega)
          have z7 := hZ'.cell 7 (by omega)
          have f7 := hZ'.free 7 (by omega)
          have x8 := hB.cell 8 (by omega)
          have z8 := hZ'.cell 8 (by omega)
          have f8 := hZ'.free 8 (by omega)
          have x9 := hB.cell 9 (by omega)
          have z9 := hZ'.cell 9 (by omega)
          have f9 := hZ'.free 9 (by omega)
          have x10 := hB.cell 10 (by omega)
          have z10 := hZ'.cell 10 (by omega)
          have f10 := hZ'.free 10 (by omega)
          have x11 := hB.cell 11 (by omega)
          have z11 := hZ'.cell 11 (by omega)
          have f11 := hZ'.free 11 (by omega)
          have x12 := hB.cell 12 (by omega)
          have z12 := hZ'.cell 12 (by omega)
          have f12 := hZ'.free 12 (by omega)
          have x13 := hB.cell 13 (by omega)
          have z13 := hZ'.cell 13 (by omega)
          have f13 := hZ'.free 13 (by omega)
          have x14 := hB.cell 14 (by omega)
          have z14 := hZ'.cell 14 (by omega)
          have f14 := hZ'.free 14 (by omega)
          have x15 := hB.cell 15 (by omega)
          have z15 := hZ'.cell 15 (by omega)
          have f15 := hZ'.free 15 (by omega)
          go_wp2
          generalize hw3 : World.setCell _ _ _ = w3
          have hw4 : set16 w2 (N + 1) (blk s) = w3 := hw3
          clear hw3 x0 z0 f0 x1 z1 f1 x2 z2 f2 x3 z3 f3 x4 z4 f4 x5 z5 f5 x6 z6 f6 x7 z7 f7 x8 z8 f8 x9 z9 f9 x10 z10 f10 x11 z11 f11 x12 z12 f12 x13 z13 f13 x14 z14 f14 x15 z15 f15
          have hR : Arr w3 (N + 1) (blk s) := hw4 ▸ hZ'.set16
          have hK3 : Kp [N + 1] w2 w3 := hw4 ▸ kp_set16 _ _ _
          clear hw4
          have x0 := hR.cell 0 (by omega)
          have x1 := hR.cell 1 (by omega)
          have x2 := hR.cell 2 (by omega)
          have x3 := hR.cell 3 (by omega)
          have x4 := hR.cell 4 (by omega)
          have x5 := hR.cell 5 (by omega)
          have x6 := hR.cell 6 (by omega)
          have x7 := hR.cell 7 (by omega)
          have x8 := hR.cell 8 (by omega)
          have x9 := hR.cell 9 (by omega)
          have x10 := hR.cell 10 (by omega)
          have x11 := hR.cell 11 (by omega)
          have x12 := hR.cell 12 (by omega)
          have x13 := hR.cell 13 (by omega)
          have x14 := hR.cell 14 (by omega)
          have x15 := hR.cell 15 (by omega)
          refine bodyPost_ret (v := .agg (arr16 (blk s))) (by simp [results, Yba.results6, go_sem, x0, x1, x2, x3, x4, x5, x6, x7, x8, x9, x10, x11, x12, x13, x14, x15]) rfl ⟨rfl, ?_⟩
          have k1 : Kp [X, N + 1] W w3 := ((hK0.mono (T := [X, N + 1]) (by simp)).trans (hK.mono (T := [X, N + 1]) (by simp))).trans (hK3.mono (T := [X, N + 1]) (by simp))
          have e1 := hX.out
          have e2 := hN.out
          have hs := hkp.size
          exact ⟨k1.os.trans hkp.os, k1.tape.trans hkp.tape, k1.output.trans hkp.output, Nat.le_trans hs k1.size, fun i hi _ => (k1.block i (by omega) (by simp; omega)).trans (hkp.block i hi (by simp))⟩
end Go.Proofs.Ybulkdfhk
