import Derived.Test.YbulkdfimRow
import Derived.Deep.OwnRows
import Derived.Deep.RegionHeld3
import Derived.Deep.DrawnRows
import Derived.BigRegion
namespace Go.Proofs.Ybulkdfim
open Go.RowKit Go.Conc
set_option linter.unusedVariables false

theorem mkws (n : Nat) (hn : n ≤ 2000) (w : World) : (Instr.makeSlice 24 (.int .i64 (n : Int)) (.int .i64 (n : Int))).run Yba.prog w = .ok (.slice (some ⟨w.heap.size, 0, none⟩) n n) (w.alloc (.cells (madeCells #[.pointer none] n) 42)) :=
  run_make_row' (P := Yba.prog) 24 42 (.pointer none) 8 Yba.underlying24 (by kernel_rfl) rfl .i64 .i64 n (by omega) (by omega) w
theorem mkch (w : World) : (Instr.makeChan 49 (.int .i64 1)).run Yba.prog w = .ok (.chan (some w.heap.size)) (w.alloc (.chan 1 #[] false 0 0 false)) := by
  have h : (Yba.prog.info? 4).map (·.bytes) = some 1 := by kernel_rfl
  obtain ⟨i, hi, hb⟩ := Option.map_eq_some_iff.1 h
  simpa using run_makeChan (P := Yba.prog) (w := w) Yba.underlying49 hi .i64 1 (by omega) (by rw [hb]; omega)

/-- The state word that counts n waiters above the low bits, as the walk spells it. -/
def s0v (n : Nat) (low : Int) : Int := bits BinOp.or IntKind.u32 ((n : Int) * 8) (bits BinOp.and IntKind.u8 low 7 % 4294967296)

theorem lw_zero {w W : World} {N n : Nat} {z : Nat → Int} (h : Rw w W N n n z) (hn : n = 0) (st h0 : Int) : Lw ((W.setCell ⟨N, 0, none⟩ (.int .u32 st)).setCell ⟨N, 5, none⟩ (.int .i64 h0)) N n 0 z st h0 := by
  subst hn
  refine ⟨oth (by omega) (sam h.m0), sam (oth (by omega) h.m5), oth (by omega) (oth (by omega) h.m6), oth (by omega) (oth (by omega) h.m7), oth (by omega) (oth (by omega) h.m9), oth (by omega) (oth (by omega) h.m10), ?_, ?_, ?_, ?_, ?_, ?_, fun b o hb => frs (frs (h.free b o hb))⟩ <;> (intro i hi; omega)
theorem lw_pos {w W : World} {N n : Nat} {z : Nat → Int} (h : Rw w W N n n z) (hn : 0 < n) (st h0 : Int) :
    Lw ((((W.setCell ⟨N, 9, none⟩ (.pointer (px N 0))).setCell ⟨N, 10, none⟩ (.pointer (px N (n - 1)))).setCell ⟨N, 0, none⟩ (.int .u32 st)).setCell ⟨N, 5, none⟩ (.int .i64 h0)) N n 0 z st h0 := by
  have o4 : ∀ b o u, (b ≠ N ∨ (o ≠ 9 ∧ o ≠ 10 ∧ o ≠ 0 ∧ o ≠ 5)) → W.cell? ⟨b, o, none⟩ = u → ((((W.setCell ⟨N, 9, none⟩ (.pointer (px N 0))).setCell ⟨N, 10, none⟩ (.pointer (px N (n - 1)))).setCell ⟨N, 0, none⟩ (.int .u32 st)).setCell ⟨N, 5, none⟩ (.int .i64 h0)).cell? ⟨b, o, none⟩ = u :=
    fun b o u hh e => oth (by omega) (oth (by omega) (oth (by omega) (oth (by omega) e)))
  refine ⟨oth (by omega) (sam (oth (by omega) (oth (by omega) h.m0))), sam (oth (by omega) (oth (by omega) (oth (by omega) h.m5))), o4 _ _ _ (by omega) h.m6, o4 _ _ _ (by omega) h.m7,
    ?_, ?_, ?_, ?_, ?_, ?_, ?_, ?_, fun b o hb => frs (frs (frs (frs (h.free b o hb))))⟩
  · rw [if_pos hn]; exact oth (by omega) (oth (by omega) (oth (by omega) (sam h.m9)))
  · rw [if_pos hn]; exact oth (by omega) (oth (by omega) (sam (oth (by omega) h.m10)))
  · intro i hi; refine o4 _ _ _ (by omega) ?_; rw [h.ws i hi, if_pos hi]
  · intro i hi; refine o4 _ _ _ (by omega) ?_
    rw [h.nx i hi]
    by_cases e : i + 1 < n
    · rw [if_pos e, if_pos ⟨by omega, e⟩]
    · rw [if_neg e, if_neg (by omega)]
  · intro i hi; refine o4 _ _ _ (by omega) ?_; exact h.pv i hi
  · intro i hi; refine o4 _ _ _ (by omega) ?_; exact h.rd i hi
  · intro i hi; refine o4 _ _ _ (by omega) ?_; exact h.sn i hi
  · intro i hi
    rw [hs _ _ _ _ _ (by omega), hs _ _ _ _ _ (by omega), hs _ _ _ _ _ (by omega), hs _ _ _ _ _ (by omega), h.ch i hi, if_neg (by omega), if_neg (by omega)]

set_option maxRecDepth 100000 in
set_option maxHeartbeats 1600000 in
theorem build_loop (sb so n cap : Nat) (z : Nat → Int) (low h0 : Int) (w : World) (hn : n ≤ 2000) (hz : ∀ i, i < n → w.cell? ⟨sb, so + i, none⟩ = some (.int .i64 (z i))) :
    Calls Yba.prog 6 #[.slice (some ⟨sb, so, none⟩) n cap, .int .u8 low, .int .i64 h0] w fun e w' => e = .returned (.tuple #[.pointer (some ⟨w.heap.size, 0, none⟩), .slice (some ⟨w.heap.size + 1, 0, none⟩) n n, .int .u32 (s0v n low)]) ∧ Lw w' w.heap.size n 0 z (s0v n low) h0 ∧ Below w.heap.size w w' := by
  have hmk := mkws n hn
  have HR : Hid (Rw w _ w.heap.size n 0 z) := rw_start w n z
  obtain ⟨N, hN⟩ : ∃ N, Hid (w.heap.size = N) := ⟨_, rfl⟩
  rw [hN.out] at HR
  go_enter Yba.func6, Yba.ntmps6
  go_wp2
  rw [hN.out]
  clear hmk
  go_loopw [12] (fun i wr => ∃ k : Nat, k ≤ n ∧ i = .int .i64 k ∧ Rw w wr N n k z) (fun i _ => n - (intOf i).toNat)
  case atStart => exact ⟨0, by omega, rfl, HR.out⟩
  case round =>
    obtain ⟨k, hk, rfl, hR⟩ := hrel
    by_cases hlt : k < n
    · have hch := mkch
      have hsz := hR.size
      have c1 := hz k hlt
      have c2 : wr.cell? ⟨sb, so + k, none⟩ = some (.int .i64 (z k)) := (hR.bel.cell (p := ⟨sb, so + k, none⟩) (by have := ltc c1; have := hN.out; simp; omega)).trans c1
      have c3 := hR.ws k hlt
      rw [if_neg (by omega)] at c3
      have f3 := hR.free (N + 1) k (by omega)
      have c4 : ∀ o, (wr.alloc o).cell? ⟨sb, so + k, none⟩ = some (.int .i64 (z k)) := fun o => (World.cell?_alloc_lt _ _ _ (ltc c2)).trans c2
      have c5 : ∀ o1 o2, ((wr.alloc o1).alloc o2).cell? ⟨N + 1, k, none⟩ = some (.pointer none) := fun o1 o2 => (World.cell?_alloc_lt _ _ _ (by have := ltc c3; simp; omega)).trans ((World.cell?_alloc_lt _ _ _ (ltc c3)).trans c3)
      have f5 : ∀ cs t, ((wr.alloc (.chan 1 #[] false 0 0 false)).alloc (.cells cs t)).frozen? ⟨N + 1, k, none⟩ = false := fun cs t => by rw [fa, fc]; exact f3
      clear c1
      go_wp2
      go_region
      clear c4 c5 f5 c2 c3 f3 hch
      have hr1 := r1_of hR hlt
      generalize hw1 : World.drew _ = w1
      have hw1' : World.drew _ = w1 := hw1
      rw [hw1'] at hr1
      clear hw1 hw1' hsz
      have C := hr1.cell
      by_cases hk0 : k = 0
      · have hfin : Rw w w1 N n 1 z := by subst hk0; exact rw_zero hR hlt hr1
        have hb : ¬ ((0 : Int) < (k : Int)) := by omega
        have hk1 : Hid (k = 0) := hk0
        clear hk0 C hr1 hR
        go_wp2
        go_roundw
        case rel => exact ⟨1, by omega, by rw [hk1.out]; rfl, hfin⟩
        case measure => simp [intOf]; omega
      · have hb : (0 : Int) < (k : Int) := by omega
        have d1 : w1.cell? ⟨N + 1, k, none⟩ = some (.pointer (some ⟨N + 3 + 2 * k, 0, none⟩)) := by rw [C, if_pos ⟨rfl, rfl⟩]; rfl
        have d2 : w1.cell? ⟨N + 1, k - 1, none⟩ = some (.pointer (some ⟨N + 3 + 2 * (k - 1), 0, none⟩)) := by rw [C, if_neg (by omega), if_neg (by omega), hR.ws (k - 1) (by omega), if_pos (by omega)]; rfl
        have d3 : w1.cell? ⟨N + 3 + 2 * k, 1, none⟩ = some (.pointer none) := by rw [C, if_neg (by omega), if_pos rfl]; rfl
        have d4 : w1.cell? ⟨N + 3 + 2 * (k - 1), 0, none⟩ = some (.pointer none) := by rw [C, if_neg (by omega), if_neg (by omega), hR.nx (k - 1) (by omega), if_neg (by omega)]
        have g3 := hr1.free (N + 3 + 2 * k) 1 (by omega)
        have g4 := hr1.free (N + 3 + 2 * (k - 1)) 0 (by omega)
        have wK : IntKind.i64.wrap ((k : Int) - 1) = (k : Int) - 1 := by rw [IntKind.wrap_i64]; omega
        have eK : ((k : Int) - 1).toNat = k - 1 := by omega
        have b1 : (k : Int) - 1 < n := by omega
        have b2 : 0 ≤ (k : Int) - 1 := by omega
        have b3 : (k : Int) < n := by omega
        have b4 : (1 : Int) ≤ k := by omega
        have b5 : (k : Int) < n + 1 := by omega
        have b6 : (k : Int) ≤ n := by omega
        have b7 : 1 ≤ k := by omega
        have b8 : k < n + 1 := by omega
        clear C
        go_wp2
        refine still_tail 11 mixed (by kernel_rfl) ?_
        simp only [List.take_succ_cons, List.take_zero, List.drop_succ_cons, List.drop_zero]
        repeat still_step
        refine wpStill_nil ?_
        go_wp2
        have e1 : (w1.setCell ⟨N + 3 + 2 * k, 1, none⟩ (.pointer (some ⟨N + 3 + 2 * (k - 1), 0, none⟩))).cell? ⟨N + 1, k, none⟩ = _ := oth (by omega) d1
        have e2 : (w1.setCell ⟨N + 3 + 2 * k, 1, none⟩ (.pointer (some ⟨N + 3 + 2 * (k - 1), 0, none⟩))).cell? ⟨N + 1, k - 1, none⟩ = _ := oth (by omega) d2
        have e4 : (w1.setCell ⟨N + 3 + 2 * k, 1, none⟩ (.pointer (some ⟨N + 3 + 2 * (k - 1), 0, none⟩))).cell? ⟨N + 3 + 2 * (k - 1), 0, none⟩ = _ := oth (by omega) d4
        refine still_tail 11 mixed (by kernel_rfl) ?_
        simp only [List.take_succ_cons, List.take_zero, List.drop_succ_cons, List.drop_zero]
        repeat still_step
        refine wpStill_nil ?_
        go_wp2
        go_roundw
        case rel =>
          refine ⟨k + 1, by omega, by go_num, ?_⟩
          exact (rw_succ hR hlt (by omega) hr1 rfl).drew.drew
        case measure => simp [intOf]; omega
    · have ek : k = n := by omega
      rw [ek] at hR
      clear ek hk
      by_cases hn0 : n = 0
      · have hb : ¬ ((0 : Int) < (n : Int)) := by omega
        have hn1 : Hid (n = 0) := hn0
        clear hn0
        go_wp2_with fail
        refine (ustore N 0 _ _ wr hR.m0 (hR.free _ _ (Nat.le_refl _))).mono ?_
        rintro e w1 ⟨rfl, hw1⟩
        have H1 : Hid (w1 = _) := hw1
        clear hw1
        go_wp2_with fail
        refine (istore N 5 _ _ w1 (by rw [H1.out]; exact oth (by omega) hR.m5) (by rw [H1.out]; exact frs (hR.free _ _ (Nat.le_refl _)))).mono ?_
        rintro e w2 ⟨rfl, hw2⟩
        have H2 : Hid (w2 = _) := hw2
        clear hw2
        go_wp2
        go_ret3
        refine ⟨by rw [hN.out]; rfl, ?_, ?_⟩
        · rw [hN.out, H2.out, H1.out]; exact lw_zero hR hn1.out _ _
        · rw [hN.out, H2.out, H1.out]; exact below_set (below_set hR.bel (Nat.le_refl _) _) (Nat.le_refl _) _
      · have hb : (0 : Int) < (n : Int) := by omega
        have d0 : wr.cell? ⟨N + 1, 0, none⟩ = some (.pointer (some ⟨N + 3 + 2 * 0, 0, none⟩)) := by rw [hR.ws 0 (by omega), if_pos (by omega)]; rfl
        have d1 : wr.cell? ⟨N + 1, n - 1, none⟩ = some (.pointer (some ⟨N + 3 + 2 * (n - 1), 0, none⟩)) := by rw [hR.ws (n - 1) (by omega), if_pos (by omega)]; rfl
        have m9 := hR.m9
        have m10 := hR.m10
        have f9 := hR.free N 9 (Nat.le_refl _)
        have f10 := hR.free N 10 (Nat.le_refl _)
        have wK : IntKind.i64.wrap ((n : Int) - 1) = (n : Int) - 1 := by rw [IntKind.wrap_i64]; omega
        have eK : ((n : Int) - 1).toNat = n - 1 := by omega
        have b1 : (n : Int) - 1 < n := by omega
        have b2 : 0 ≤ (n : Int) - 1 := by omega
        have b4 : (1 : Int) ≤ n := by omega
        have b5 : (n : Int) < n + 1 := by omega
        have b7 : 1 ≤ n := by omega
        have e1 : ∀ v, (wr.setCell ⟨N, 9, none⟩ v).cell? ⟨N + 1, n - 1, none⟩ = some (.pointer (some ⟨N + 3 + 2 * (n - 1), 0, none⟩)) := fun v => oth (by omega) d1
        go_wp2_with fail
        clear e1 d0 d1 m9 m10 f9 f10 wK eK b1 b2 b4 b5 b7
        refine (ustore N 0 _ _ _ (oth (by omega) (oth (by omega) hR.m0)) (frs (frs (hR.free _ _ (Nat.le_refl _))))).mono ?_
        rintro e w1 ⟨rfl, hw1⟩
        have H1 : Hid (w1 = _) := hw1
        clear hw1
        go_wp2_with fail
        refine (istore N 5 _ _ w1 (by rw [H1.out]; exact oth (by omega) (oth (by omega) (oth (by omega) hR.m5))) (by rw [H1.out]; exact frs (frs (frs (hR.free _ _ (Nat.le_refl _)))))).mono ?_
        rintro e w2 ⟨rfl, hw2⟩
        have H2 : Hid (w2 = _) := hw2
        clear hw2
        go_wp2
        go_ret3
        refine ⟨by rw [hN.out]; rfl, ?_, ?_⟩
        · rw [hN.out, H2.out, H1.out]; exact lw_pos hR (by omega) _ _
        · rw [hN.out, H2.out, H1.out]; exact below_set (below_set (below_set (below_set hR.bel (Nat.le_refl _) _) (Nat.le_refl _) _) (Nat.le_refl _) _) (Nat.le_refl _) _
set_option maxRecDepth 100000 in
set_option maxHeartbeats 1600000 in
theorem build_nil (a0 : Option Addr) (n cap : Nat) (z : Nat → Int) (low h0 : Int) (w : World) (hn : n ≤ 2000) (hn0 : n = 0) :
    Calls Yba.prog 6 #[.slice a0 n cap, .int .u8 low, .int .i64 h0] w fun e w' => e = .returned (.tuple #[.pointer (some ⟨w.heap.size, 0, none⟩), .slice (some ⟨w.heap.size + 1, 0, none⟩) n n, .int .u32 (s0v n low)]) ∧ Lw w' w.heap.size n 0 z (s0v n low) h0 ∧ Below w.heap.size w w' := by
  have hmk := mkws n hn
  have hn1 : Hid (n = 0) := hn0
  clear hn0
  have HR : Hid (Rw w _ w.heap.size n 0 z) := rw_start w n z
  obtain ⟨N, hN⟩ : ∃ N, Hid (w.heap.size = N) := ⟨_, rfl⟩
  rw [hN.out] at HR
  go_enter Yba.func6, Yba.ntmps6
  go_wp2
  rw [hN.out]
  clear hmk
  go_loopw [12] (fun i wr => ∃ k : Nat, k ≤ n ∧ i = .int .i64 k ∧ Rw w wr N n k z) (fun i _ => n - (intOf i).toNat)
  case atStart => exact ⟨0, by omega, rfl, HR.out⟩
  case round =>
    obtain ⟨k, hk, rfl, hR⟩ := hrel
    by_cases hlt : k < n
    · exact absurd hlt (by have := hn1.out; omega)
    · have ek : k = n := by omega
      rw [ek] at hR
      clear ek hk
      have hb : ¬ ((0 : Int) < (n : Int)) := by have := hn1.out; omega
      go_wp2_with fail
      refine (ustore N 0 _ _ wr hR.m0 (hR.free _ _ (Nat.le_refl _))).mono ?_
      rintro e w1 ⟨rfl, hw1⟩
      have H1 : Hid (w1 = _) := hw1
      clear hw1
      go_wp2_with fail
      refine (istore N 5 _ _ w1 (by rw [H1.out]; exact oth (by omega) hR.m5) (by rw [H1.out]; exact frs (hR.free _ _ (Nat.le_refl _)))).mono ?_
      rintro e w2 ⟨rfl, hw2⟩
      have H2 : Hid (w2 = _) := hw2
      clear hw2
      go_wp2
      go_ret3
      refine ⟨by rw [hN.out]; rfl, ?_, ?_⟩
      · rw [hN.out, H2.out, H1.out]; exact lw_zero hR hn1.out _ _
      · rw [hN.out, H2.out, H1.out]; exact below_set (below_set hR.bel (Nat.le_refl _) _) (Nat.le_refl _) _
end Go.Proofs.Ybulkdfim
