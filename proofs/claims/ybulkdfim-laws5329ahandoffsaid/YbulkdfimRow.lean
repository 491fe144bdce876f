/-
  The waiters as zzs5329abuild lays them, one a round.
-/
import Derived.Test.YbulkdfimLw
import Derived.Laws.MakeOwn
namespace Go.Proofs.Ybulkdfim
open Go.RowKit Go.Conc
set_option linter.unusedVariables false

/-- i of n waiters are laid. -/
structure Rw (w W : World) (N n i : Nat) (z : Nat → Int) : Prop where
  m0 : W.cell? ⟨N, 0, none⟩ = some (.int .u32 0)
  m5 : W.cell? ⟨N, 5, none⟩ = some (.int .i64 0)
  m6 : W.cell? ⟨N, 6, none⟩ = some (.int .i64 0)
  m7 : W.cell? ⟨N, 7, none⟩ = some (.int .i32 0)
  m9 : W.cell? ⟨N, 9, none⟩ = some (.pointer none)
  m10 : W.cell? ⟨N, 10, none⟩ = some (.pointer none)
  ws : ∀ j, j < n → W.cell? ⟨N + 1, j, none⟩ = some (.pointer (if j < i then px N j else none))
  nx : ∀ j, j < i → W.cell? ⟨N + 3 + 2 * j, 0, none⟩ = some (.pointer (if j + 1 < i then px N (j + 1) else none))
  pv : ∀ j, j < i → W.cell? ⟨N + 3 + 2 * j, 1, none⟩ = some (.pointer (if 0 < j then px N (j - 1) else none))
  rd : ∀ j, j < i → W.cell? ⟨N + 3 + 2 * j, 2, none⟩ = some (.chan (some (N + 2 + 2 * j)))
  sn : ∀ j, j < i → W.cell? ⟨N + 3 + 2 * j, 3, none⟩ = some (.int .i64 (z j))
  ch : ∀ j, j < i → W.heap[N + 2 + 2 * j]? = some (.chan 1 #[] false 0 0 false)
  free : ∀ b o, N ≤ b → W.frozen? ⟨b, o, none⟩ = false
  size : W.heap.size = N + 2 + 2 * i
  bel : Below N w W

theorem made_get (n j : Nat) (h : j < n) : (madeCells #[.pointer none] n)[j]? = some (.pointer none) := by
  simp [madeCells, h, Nat.mod_one]

theorem frozen_far {w : World} {b o : Nat} (h : w.heap.size ≤ b) : w.frozen? ⟨b, o, none⟩ = false := by
  unfold World.frozen?
  rw [Array.getElem?_eq_none h]

theorem rw_start (w : World) (n : Nat) (z : Nat → Int) :
    Rw w ((w.alloc (.cells #[.int .u32 0, .int .u16 0, .int .u16 0, .int .i64 0, .int .i64 0, .int .i64 0, .int .i64 0, .int .i32 0, .int .u32 0, .pointer none, .pointer none] 46)).alloc (.cells (madeCells #[.pointer none] n) 42)) w.heap.size n 0 z := by
  have s1 : (w.alloc (.cells #[.int .u32 0, .int .u16 0, .int .u16 0, .int .i64 0, .int .i64 0, .int .i64 0, .int .i64 0, .int .i32 0, .int .u32 0, .pointer none, .pointer none] 46)).heap.size = w.heap.size + 1 := World.size_alloc _ _
  refine ⟨?_, ?_, ?_, ?_, ?_, ?_, ?_, ?_, ?_, ?_, ?_, ?_, ?_, ?_, ?_⟩
  · rw [ca, if_neg (by omega), ca, if_pos rfl]; rfl
  · rw [ca, if_neg (by omega), ca, if_pos rfl]; rfl
  · rw [ca, if_neg (by omega), ca, if_pos rfl]; rfl
  · rw [ca, if_neg (by omega), ca, if_pos rfl]; rfl
  · rw [ca, if_neg (by omega), ca, if_pos rfl]; rfl
  · rw [ca, if_neg (by omega), ca, if_pos rfl]; rfl
  · intro j hj; rw [ca, if_pos (by omega), made_get n j hj, if_neg (by omega)]
  · intro j hj; omega
  · intro j hj; omega
  · intro j hj; omega
  · intro j hj; omega
  · intro j hj; omega
  · intro b o hb; rw [fa, fa]; exact frozen_far hb
  · rw [World.size_alloc, s1]
  · exact ((Below.refl w.heap.size w).alloc (Nat.le_refl _) _).alloc (by rw [s1]; omega) _
/-- Waiter k is made and stands in the row; it is not yet linked. -/
structure R1 (w W V : World) (N n k : Nat) (z : Nat → Int) : Prop where
  cell : ∀ b o, V.cell? ⟨b, o, none⟩ = if b = N + 1 ∧ o = k then some (.pointer (px N k)) else if b = N + 3 + 2 * k then (#[.pointer none, .pointer none, .chan (some (N + 2 + 2 * k)), .int .i64 (z k), .int .i64 0] : Array Value)[o]? else W.cell? ⟨b, o, none⟩
  heap : ∀ j, j ≤ k → V.heap[N + 2 + 2 * j]? = if j = k then some (.chan 1 #[] false 0 0 false) else W.heap[N + 2 + 2 * j]?
  free : ∀ b o, N ≤ b → V.frozen? ⟨b, o, none⟩ = false
  size : V.heap.size = N + 2 + 2 * (k + 1)
  bel : Below N w V
theorem r1_of {w W : World} {N n k : Nat} {z : Nat → Int} (h : Rw w W N n k z) (hk : k < n) :
    R1 w W ((((W.alloc (.chan 1 #[] false 0 0 false)).alloc (.cells #[.pointer none, .pointer none, .chan (some (N + 2 + 2 * k)), .int .i64 (z k), .int .i64 0] 51)).setCell ⟨N + 1, k, none⟩ (.pointer (some ⟨N + 2 + 2 * k + 1, 0, none⟩))).drew) N n k z := by
  have hsz := h.size
  have c3 := h.ws k hk
  have s1 : (W.alloc (.chan 1 #[] false 0 0 false)).heap.size = N + 2 + 2 * k + 1 := by rw [World.size_alloc, hsz]
  have i3 : (((W.alloc (.chan 1 #[] false 0 0 false)).alloc (.cells #[.pointer none, .pointer none, .chan (some (N + 2 + 2 * k)), .int .i64 (z k), .int .i64 0] 51)).cell? ⟨N + 1, k, none⟩).isSome = true := by
    rw [ca, if_neg (by omega), cc, c3]; rfl
  refine ⟨?_, ?_, ?_, ?_, ?_⟩
  · intro b o
    rw [World.cell?_drew, ce i3]
    by_cases e : b = N + 1 ∧ o = k
    · rw [if_pos e, if_pos e]; unfold px; rw [show N + 2 + 2 * k + 1 = N + 3 + 2 * k by omega]
    · rw [if_neg e, if_neg e, ca, s1, cc]
      by_cases e2 : b = N + 3 + 2 * k
      · rw [if_pos (by omega), if_pos e2]
      · rw [if_neg (by omega), if_neg e2]
  · intro j hj
    rw [hpd, hs _ _ _ _ _ (by omega), ha, s1, if_neg (by omega), ha, hsz]
    by_cases e : j = k
    · rw [if_pos (by omega), if_pos e]
    · rw [if_neg (by omega), if_neg e]
  · intro b o hb; rw [frd]; exact frs (by rw [fa, fc]; exact h.free b o hb)
  · rw [World.size_drew, World.size_setCell, World.size_alloc, s1]; omega
  · exact (below_set ((h.bel.alloc (by omega) _).alloc (by rw [s1]; omega) _) (by omega) _).drew
theorem rw_zero {w W V : World} {N n : Nat} {z : Nat → Int} (h : Rw w W N n 0 z) (hn : 0 < n) (r : R1 w W V N n 0 z) : Rw w V N n 1 z := by
  have C := r.cell
  refine ⟨?_, ?_, ?_, ?_, ?_, ?_, ?_, ?_, ?_, ?_, ?_, ?_, r.free, by rw [r.size], r.bel⟩
  · rw [C, if_neg (by omega), if_neg (by omega)]; exact h.m0
  · rw [C, if_neg (by omega), if_neg (by omega)]; exact h.m5
  · rw [C, if_neg (by omega), if_neg (by omega)]; exact h.m6
  · rw [C, if_neg (by omega), if_neg (by omega)]; exact h.m7
  · rw [C, if_neg (by omega), if_neg (by omega)]; exact h.m9
  · rw [C, if_neg (by omega), if_neg (by omega)]; exact h.m10
  · intro j hj
    by_cases e : j = 0
    · subst e; rw [C, if_pos (by omega), if_pos (by omega)]
    · rw [C, if_neg (by omega), if_neg (by omega), h.ws j hj, if_neg (by omega), if_neg (by omega)]
  · intro j hj; obtain rfl : j = 0 := by omega
    rw [C, if_neg (by omega), if_pos (by omega), if_neg (by omega)]; rfl
  · intro j hj; obtain rfl : j = 0 := by omega
    rw [C, if_neg (by omega), if_pos (by omega), if_neg (by omega)]; rfl
  · intro j hj; obtain rfl : j = 0 := by omega
    rw [C, if_neg (by omega), if_pos (by omega)]; rfl
  · intro j hj; obtain rfl : j = 0 := by omega
    rw [C, if_neg (by omega), if_pos (by omega)]; rfl
  · intro j hj; obtain rfl : j = 0 := by omega
    rw [r.heap 0 (by omega), if_pos rfl]
theorem rw_succ {w W V U : World} {N n k : Nat} {z : Nat → Int} (h : Rw w W N n k z) (hk : k < n) (h0 : 0 < k) (r : R1 w W V N n k z)
    (hU : U = ((V.setCell ⟨N + 3 + 2 * k, 1, none⟩ (.pointer (px N (k - 1)))).setCell ⟨N + 3 + 2 * (k - 1), 0, none⟩ (.pointer (px N k)))) : Rw w U N n (k + 1) z := by
  have C0 := r.cell
  have iX : (V.cell? ⟨N + 3 + 2 * k, 1, none⟩).isSome = true := by rw [C0, if_neg (by omega), if_pos rfl]; rfl
  have iP : ((V.setCell ⟨N + 3 + 2 * k, 1, none⟩ (.pointer (px N (k - 1)))).cell? ⟨N + 3 + 2 * (k - 1), 0, none⟩).isSome = true := by
    rw [oth (by omega) (C0 _ _), if_neg (by omega), if_neg (by omega), h.nx (k - 1) (by omega)]; rfl
  have C : ∀ b o, U.cell? ⟨b, o, none⟩ = if b = N + 3 + 2 * (k - 1) ∧ o = 0 then some (.pointer (px N k)) else if b = N + 3 + 2 * k ∧ o = 1 then some (.pointer (px N (k - 1))) else if b = N + 1 ∧ o = k then some (.pointer (px N k)) else if b = N + 3 + 2 * k then (#[.pointer none, .pointer none, .chan (some (N + 2 + 2 * k)), .int .i64 (z k), .int .i64 0] : Array Value)[o]? else W.cell? ⟨b, o, none⟩ := by
    intro b o
    rw [hU, ce iP, ce iX, C0]
  refine ⟨?_, ?_, ?_, ?_, ?_, ?_, ?_, ?_, ?_, ?_, ?_, ?_, ?_, ?_, ?_⟩
  · rw [C, if_neg (by omega), if_neg (by omega), if_neg (by omega), if_neg (by omega)]; exact h.m0
  · rw [C, if_neg (by omega), if_neg (by omega), if_neg (by omega), if_neg (by omega)]; exact h.m5
  · rw [C, if_neg (by omega), if_neg (by omega), if_neg (by omega), if_neg (by omega)]; exact h.m6
  · rw [C, if_neg (by omega), if_neg (by omega), if_neg (by omega), if_neg (by omega)]; exact h.m7
  · rw [C, if_neg (by omega), if_neg (by omega), if_neg (by omega), if_neg (by omega)]; exact h.m9
  · rw [C, if_neg (by omega), if_neg (by omega), if_neg (by omega), if_neg (by omega)]; exact h.m10
  · intro j hj
    by_cases e : j = k
    · subst e; rw [C, if_neg (by omega), if_neg (by omega), if_pos (by omega), if_pos (by omega)]
    · rw [C, if_neg (by omega), if_neg (by omega), if_neg (by omega), if_neg (by omega), h.ws j hj]
      by_cases e2 : j < k
      · rw [if_pos e2, if_pos (by omega)]
      · rw [if_neg e2, if_neg (by omega)]
  · intro j hj
    by_cases e : j = k
    · subst e; rw [C, if_neg (by omega), if_neg (by omega), if_neg (by omega), if_pos rfl, if_neg (by omega)]; rfl
    · by_cases e1 : j = k - 1
      · subst e1; rw [C, if_pos (by omega), if_pos (by omega), show k - 1 + 1 = k by omega]
      · rw [C, if_neg (by omega), if_neg (by omega), if_neg (by omega), if_neg (by omega), h.nx j (by omega), if_pos (by omega), if_pos (by omega)]
  · intro j hj
    by_cases e : j = k
    · subst e; rw [C, if_neg (by omega), if_pos (by omega), if_pos h0]
    · rw [C, if_neg (by omega), if_neg (by omega), if_neg (by omega), if_neg (by omega)]; exact h.pv j (by omega)
  · intro j hj
    by_cases e : j = k
    · subst e; rw [C, if_neg (by omega), if_neg (by omega), if_neg (by omega), if_pos rfl]; rfl
    · rw [C, if_neg (by omega), if_neg (by omega), if_neg (by omega), if_neg (by omega)]; exact h.rd j (by omega)
  · intro j hj
    by_cases e : j = k
    · subst e; rw [C, if_neg (by omega), if_neg (by omega), if_neg (by omega), if_pos rfl]; rfl
    · rw [C, if_neg (by omega), if_neg (by omega), if_neg (by omega), if_neg (by omega)]; exact h.sn j (by omega)
  · intro j hj
    rw [hU, hs _ _ _ _ _ (by omega), hs _ _ _ _ _ (by omega), r.heap j (by omega)]
    by_cases e : j = k
    · rw [if_pos e]
    · rw [if_neg e]; exact h.ch j (by omega)
  · intro b o hb; rw [hU]; exact frs (frs (r.free b o hb))
  · rw [hU, World.size_setCell, World.size_setCell, r.size]
  · rw [hU]; exact below_set (below_set r.bel (by omega) _) (by omega) _
theorem Rw.drew {w W : World} {N n i : Nat} {z : Nat → Int} (h : Rw w W N n i z) : Rw w W.drew N n i z :=
  ⟨h.m0, h.m5, h.m6, h.m7, h.m9, h.m10, h.ws, h.nx, h.pv, h.rd, h.sn, h.ch, h.free, h.size, h.bel.drew⟩
end Go.Proofs.Ybulkdfim
