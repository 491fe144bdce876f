/-
  chachaBlock (8): the first loop.
-/
import Derived.Test.YbulkdfhkQm
import Derived.Test.YbulkdfhkBin
namespace Go.Proofs.Ybulkdfhk
open Go.RowKit

/-- Two rounds: the columns, then the diagonals. -/
def dbl (s : Nat → Int) : Nat → Int :=
  upd (upd (upd (upd (upd (upd (upd (upd s 0 4 8 12) 1 5 9 13) 2 6 10 14) 3 7 11 15) 0 5 10 15) 1 6 11 12) 2 7 8 13) 3 4 9 14
def rnd : Nat → (Nat → Int) → Nat → Int
  | 0, s => s
  | k + 1, s => dbl (rnd k s)
def blk (s : Nat → Int) (i : Nat) : Int := (rnd 10 s i + s i) % 4294967296

/-- Byte i of the words, the least byte first. -/
def byteOf (W : Nat → Int) (i : Nat) : Int := W (i / 4) / 256 ^ (i % 4) % 256
/-- The first k words are laid, the rest is as it was. -/
def mix (W f : Nat → Int) (k i : Nat) : Int := if i < 4 * k then byteOf W i else f i

/-- 64 bytes lie in block G, and may be written. -/
structure Byt (w : World) (G : Nat) (f : Nat → Int) : Prop where
  cell : ∀ i, i < 64 → w.cell? ⟨G, i, none⟩ = some (.int .u8 (f i))
  free : ∀ i, i < 64 → w.frozen? ⟨G, i, none⟩ = false
theorem Byt.lt {w : World} {X : Nat} {s : Nat → Int} (h : Byt w X s) : X < w.heap.size := lt_of_cell (h.cell 0 (by omega))
theorem Byt.drewN {w : World} {X : Nat} {s : Nat → Int} (h : Byt w X s) (n : Nat) : Byt (w.drewN n) X s := ⟨h.cell, h.free⟩
theorem Byt.kp {w w' : World} {X : Nat} {s : Nat → Int} (h : Byt w X s) {S : List Nat} (k : Kp S w w') (hn : X ∉ S) : Byt w' X s :=
  ⟨fun i hi => (k.cell h.lt hn).trans (h.cell i hi), fun i hi => (k.frozen h.lt hn).trans (h.free i hi)⟩
theorem Byt.congr {w : World} {X : Nat} {s t : Nat → Int} (h : Byt w X s) (e : ∀ i, i < 64 → s i = t i) : Byt w X t :=
  ⟨fun i hi => by rw [← e i hi]; exact h.cell i hi, h.free⟩

theorem idx (g : Nat → Int) (k : Nat) (hk : k < 16) (w : World) : (Instr.index 23 (.agg #[.int .u32 (g 0), .int .u32 (g 1), .int .u32 (g 2), .int .u32 (g 3), .int .u32 (g 4), .int .u32 (g 5), .int .u32 (g 6), .int .u32 (g 7), .int .u32 (g 8), .int .u32 (g 9), .int .u32 (g 10), .int .u32 (g 11), .int .u32 (g 12), .int .u32 (g 13), .int .u32 (g 14), .int .u32 (g 15)]) (.int .i64 k)).run Yba.prog w = .ok (.int .u32 (g k)) w := by
  have h : k = 0 ∨ k = 1 ∨ k = 2 ∨ k = 3 ∨ k = 4 ∨ k = 5 ∨ k = 6 ∨ k = 7 ∨ k = 8 ∨ k = 9 ∨ k = 10 ∨ k = 11 ∨ k = 12 ∨ k = 13 ∨ k = 14 ∨ k = 15 := by omega
  rcases h with rfl | rfl | rfl | rfl | rfl | rfl | rfl | rfl | rfl | rfl | rfl | rfl | rfl | rfl | rfl | rfl <;> (show _ = _; kernel_rfl)

theorem cut4 (G k : Nat) (hk : k < 16) (w : World) : (Instr.sliceAt 40 (.pointer (some ⟨G, 0, none⟩)) (some (.int .i64 (4 * (k : Int)))) none none).run Yba.prog w = .ok (.slice (some ⟨G, 4 * k, none⟩) (64 - 4 * k) (64 - 4 * k)) w := by
  have h : k = 0 ∨ k = 1 ∨ k = 2 ∨ k = 3 ∨ k = 4 ∨ k = 5 ∨ k = 6 ∨ k = 7 ∨ k = 8 ∨ k = 9 ∨ k = 10 ∨ k = 11 ∨ k = 12 ∨ k = 13 ∨ k = 14 ∨ k = 15 := by omega
  rcases h with rfl | rfl | rfl | rfl | rfl | rfl | rfl | rfl | rfl | rfl | rfl | rfl | rfl | rfl | rfl | rfl <;> (show _ = _; kernel_rfl)

theorem Byt.word {w : World} {G : Nat} {W f : Nat → Int} {k : Nat} {v : Int} (h : Byt w G (mix W f k)) (hk : k < 16) (e : W k = v) (h0 : 0 ≤ v) (h1 : v < 4294967296) :
    Byt ((w.alloc (.cells #[] 50)).setCells G (4 * k) [.int .u8 (v % 256), .int .u8 (v / 256 % 256), .int .u8 (v / 65536 % 256), .int .u8 (v / 16777216)]) G (mix W f (k + 1)) := by
  have hc : ∀ i, i < 64 → (w.alloc (.cells #[] 50)).cell? ⟨G, i, none⟩ = some (.int .u8 (mix W f k i)) := fun i hi => cell_old _ (h.cell i hi)
  refine ⟨fun i hi => ?_, fun i hi => ?_⟩
  · by_cases hin : 4 * k ≤ i ∧ i < 4 * k + 4
    · have hj : i = 4 * k + 0 ∨ i = 4 * k + 1 ∨ i = 4 * k + 2 ∨ i = 4 * k + 3 := by omega
      have m : mix W f (k + 1) i = byteOf W i := by unfold mix; rw [if_pos (by omega)]
      rw [m]
      have hget := World.cell?_setCells_in G [.int .u8 (v % 256), .int .u8 (v / 256 % 256), .int .u8 (v / 65536 % 256), .int .u8 (v / 16777216)] (4 * k) (w.alloc (.cells #[] 50)) (fun j hj => by
        simp at hj; rw [hc (4 * k + j) (by omega)]; rfl)
      rcases hj with rfl | rfl | rfl | rfl
      · rw [hget 0 (by simp)]
        have b : byteOf W (4 * k + 0) = v % 256 := by unfold byteOf; rw [show (4 * k + 0) / 4 = k by omega, show (4 * k + 0) % 4 = 0 by omega, e]; simp
        rw [b]; rfl
      · rw [hget 1 (by simp)]
        have b : byteOf W (4 * k + 1) = v / 256 % 256 := by unfold byteOf; rw [show (4 * k + 1) / 4 = k by omega, show (4 * k + 1) % 4 = 1 by omega, e]; simp
        rw [b]; rfl
      · rw [hget 2 (by simp)]
        have b : byteOf W (4 * k + 2) = v / 65536 % 256 := by unfold byteOf; rw [show (4 * k + 2) / 4 = k by omega, show (4 * k + 2) % 4 = 2 by omega, e]; rfl
        rw [b]; rfl
      · rw [hget 3 (by simp)]
        have b : byteOf W (4 * k + 3) = v / 16777216 := by unfold byteOf; rw [show (4 * k + 3) / 4 = k by omega, show (4 * k + 3) % 4 = 3 by omega, e]; show v / 16777216 % 256 = _; omega
        rw [b]; rfl
    · rw [World.cell?_setCells_out G _ _ _ _ (fun _ _ => by simp; omega), hc i hi]
      have m : mix W f (k + 1) i = mix W f k i := by
        unfold mix
        by_cases hlt : i < 4 * k
        · rw [if_pos hlt, if_pos (by omega)]
        · rw [if_neg hlt, if_neg (by omega)]
      rw [m]
  · rw [World.frozen?_setCells, frozen?_alloc_cells]
    exact h.free i hi

set_option maxRecDepth 100000 in
set_option maxHeartbeats 4000000 in
theorem cb (G S : Nat) (s : Nat → Int) (w : World) (f : Nat → Int) (hS : Arr w S s) (hG : Byt w G f) (hne : S ≠ G) :
    Calls Yba.prog 8 #[.pointer (some ⟨G, 0, none⟩), .pointer (some ⟨S, 0, none⟩)] w fun e w' => e = .returned (.tuple #[]) ∧ Byt w' G (byteOf (blk s)) ∧ Kp [G] w w' := by
  have c0 := hS.cell 0 (by omega)
  have c1 := hS.cell 1 (by omega)
  have c2 := hS.cell 2 (by omega)
  have c3 := hS.cell 3 (by omega)
  have c4 := hS.cell 4 (by omega)
  have c5 := hS.cell 5 (by omega)
  have c6 := hS.cell 6 (by omega)
  have c7 := hS.cell 7 (by omega)
  have c8 := hS.cell 8 (by omega)
  have c9 := hS.cell 9 (by omega)
  have c10 := hS.cell 10 (by omega)
  have c11 := hS.cell 11 (by omega)
  have c12 := hS.cell 12 (by omega)
  have c13 := hS.cell 13 (by omega)
  have c14 := hS.cell 14 (by omega)
  have c15 := hS.cell 15 (by omega)
  go_enter Yba.func8, Yba.ntmps8
  go_wp2
  go_quiet (fail)
  go_wp2
  go_quiet (fail)
  go_wp2
  go_quiet (fail)
  go_wp2
  go_quiet (fail)
  go_wp2
  generalize hw1 : World.drewN (World.drewN (World.drewN (World.drewN w _) _) _) _ = w1
  have hK1 : Kp [G] w w1 := by subst hw1; exact ((((Kp.refl _ _).drewN _).drewN _).drewN _).drewN _
  have hG1 : Byt w1 G f := by subst hw1; exact (((hG.drewN _).drewN _).drewN _).drewN _
  clear hw1
  go_loop [4, 5, 6, 7, 8, 9, 10, 11, 12, 13, 14, 15, 16, 17, 18, 19, 86] (fun x0 x1 x2 x3 x4 x5 x6 x7 x8 x9 x10 x11 x12 x13 x14 x15 i => ∃ k : Nat, k ≤ 10 ∧ i = .int .i64 k ∧ x0 = .int .u32 (rnd k s 0) ∧ x1 = .int .u32 (rnd k s 1) ∧ x2 = .int .u32 (rnd k s 2) ∧ x3 = .int .u32 (rnd k s 3) ∧ x4 = .int .u32 (rnd k s 4) ∧ x5 = .int .u32 (rnd k s 5) ∧ x6 = .int .u32 (rnd k s 6) ∧ x7 = .int .u32 (rnd k s 7) ∧ x8 = .int .u32 (rnd k s 8) ∧ x9 = .int .u32 (rnd k s 9) ∧ x10 = .int .u32 (rnd k s 10) ∧ x11 = .int .u32 (rnd k s 11) ∧ x12 = .int .u32 (rnd k s 12) ∧ x13 = .int .u32 (rnd k s 13) ∧ x14 = .int .u32 (rnd k s 14) ∧ x15 = .int .u32 (rnd k s 15)) (fun _ _ _ _ _ _ _ _ _ _ _ _ _ _ _ _ i => 10 - (intOf i).toNat)
  case atStart => exact ⟨0, by omega, rfl, rfl, rfl, rfl, rfl, rfl, rfl, rfl, rfl, rfl, rfl, rfl, rfl, rfl, rfl, rfl, rfl⟩
  case round =>
    obtain ⟨k, hk, rfl, rfl, rfl, rfl, rfl, rfl, rfl, rfl, rfl, rfl, rfl, rfl, rfl, rfl, rfl, rfl, rfl⟩ := hrel
    by_cases hlt : k < 10
    · generalize hgr : rnd k s = g
      have Hg : Hid (rnd k s = g) := hgr
      clear hgr
      go_wp2_with (go_at_call 11; refine (quarter _ _ _ _ _).mono ?_; rintro e w' ⟨rfl, rfl⟩)
      go_round
      case rel =>
        have e := congrArg dbl Hg.out
        exact ⟨k + 1, by omega, by go_num, by rw [show rnd (k + 1) s = dbl g from e]; rfl, by rw [show rnd (k + 1) s = dbl g from e]; rfl, by rw [show rnd (k + 1) s = dbl g from e]; rfl, by rw [show rnd (k + 1) s = dbl g from e]; rfl, by rw [show rnd (k + 1) s = dbl g from e]; rfl, by rw [show rnd (k + 1) s = dbl g from e]; rfl, by rw [show rnd (k + 1) s = dbl g from e]; rfl, by rw [show rnd (k + 1) s = dbl g from e]; rfl, by rw [show rnd (k + 1) s = dbl g from e]; rfl, by rw [show rnd (k + 1) s = dbl g from e]; rfl, by rw [show rnd (k + 1) s = dbl g from e]; rfl, by rw [show rnd (k + 1) s = dbl g from e]; rfl, by rw [show rnd (k + 1) s = dbl g from e]; rfl, by rw [show rnd (k + 1) s = dbl g from e]; rfl, by rw [show rnd (k + 1) s = dbl g from e]; rfl, by rw [show rnd (k + 1) s = dbl g from e]; rfl⟩
      case measure => simp [intOf]; omega
    · obtain rfl : k = 10 := by omega
      clear hlt hk
      generalize hgr : rnd 10 s = g
      have Hg : Hid (rnd 10 s = g) := hgr
      clear hgr c0 c1 c2 c3 c4 c5 c6 c7 c8 c9 c10 c11 c12 c13 c14 c15
      go_wp2
      go_loopw [186] (fun i wr => ∃ k : Nat, k ≤ 16 ∧ i = .int .i64 k ∧ Kp [G] w wr ∧ Byt wr G (mix (blk s) f k)) (fun i _ => 16 - (intOf i).toNat)
      case atStart => exact ⟨0, by omega, rfl, hK1, hG1.congr (fun i hi => by simp [mix])⟩
      case round =>
        obtain ⟨k, hk, rfl, hK, hB⟩ := hrel
        by_cases hlt : k < 16
        · have hi := idx g k hlt
          have cS := (hS.kp hK (by simpa using hne)).cell k hlt
          have e4 : ((4 : Int) * (k : Int)).toNat = 4 * k := by omega
          have hw4 : IntKind.i64.wrap (4 * (k : Int)) = 4 * (k : Int) := by rw [IntKind.wrap_i64]; omega
          have hsl := cut4 G k hlt
          go_wp2
          refine still_tail 13 mixed (by kernel_rfl) ?_
          simp only [List.take_succ_cons, List.take_zero, List.drop_succ_cons, List.drop_zero]
          repeat still_step
          refine wpStill_nil ?_
          go_wp2_with fail
          clear hi cS hw4 hsl
          have hBd : Byt wr.drew G (mix (blk s) f k) := ⟨hB.cell, hB.free⟩
          refine (put32 G (4 * k) (64 - 4 * k) (64 - 4 * k) ((g k + s k) % 4294967296) (by omega) (by omega) _ _ _ _ wr.drew (by omega)
            (hBd.cell (4 * k) (by omega)) (hBd.cell (4 * k + 1) (by omega)) (hBd.cell (4 * k + 2) (by omega)) (hBd.cell (4 * k + 3) (by omega))
            (hBd.free (4 * k) (by omega)) (hBd.free (4 * k + 1) (by omega)) (hBd.free (4 * k + 2) (by omega)) (hBd.free (4 * k + 3) (by omega))).mono ?_
          rintro e w' ⟨rfl, hw'⟩
          have hB' : Byt w' G (mix (blk s) f (k + 1)) := by
            rw [hw']
            exact Byt.word (w := wr.drew) ⟨hB.cell, hB.free⟩ hlt (by unfold blk; rw [Hg.out]) (by omega) (by omega)
          have hK' : Kp [G] w w' := by
            rw [hw']
            exact Kp.setCells (by simp) _ _ ((hK.drew).alloc _)
          clear hw' hB hBd
          go_wp2
          go_roundw
          case rel => exact ⟨k + 1, by omega, by go_num, hK', hB'⟩
          case measure => simp [intOf]; omega
        · go_wp2
          obtain rfl : k = 16 := by omega
          go_end0
          exact ⟨rfl, hB.congr (fun i hi => by simp [mix]; omega), hK⟩
end Go.Proofs.Ybulkdfhk
