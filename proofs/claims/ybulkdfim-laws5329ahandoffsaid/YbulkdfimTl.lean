/-
  LawS5329ADrain (4): plain facts, the last loop's state.
-/
import Derived.Test.YbulkdfimBd
import Derived.Lib.EndianBits
import Derived.Conc.LoneSelectN
namespace Go.Proofs.Ybulkdfim
open Go.RowKit Go.Conc
set_option linter.unusedVariables false

theorem and7 (low : Int) (h0 : 0 ≤ low) (h1 : low < 256) : bits BinOp.and IntKind.u8 low 7 = low % 8 := by
  have := bits_mask .u8 8 (by decide) wraps_u8 3 (by omega) low h0 (by simpa using h1)
  simpa using this
theorem or8 (m l : Int) (hm : 0 ≤ m) (hm1 : m ≤ 100000) (hl : 0 ≤ l) (hl1 : l < 8) : bits BinOp.or IntKind.u32 (m * 8) l = m * 8 + l := by
  have := bits_join .u32 32 (by decide) wraps_u32 3 (m * 8) l (by omega) (by omega) (by omega) hl (by omega) (by omega)
  exact this
/-- The state word of m waiters queued. -/
def sw (m : Nat) (low : Int) : Int := (m : Int) * 8 + low % 8
theorem s0v_eq (n : Nat) (low : Int) (h0 : 0 ≤ low) (h1 : low < 256) (hn : n ≤ 2000) : s0v n low = sw n low := by
  unfold s0v sw
  rw [and7 low h0 h1, show low % 8 % 4294967296 = low % 8 by omega, or8 _ _ (by omega) (by omega) (by omega) (by omega)]
theorem sw_dec (m : Nat) (low : Int) (hn : m ≤ 2000) : (sw (m + 1) low + 4294967288) % 4294967296 = sw m low := by
  unfold sw; omega

theorem ho_step (N n k : Nat) (z : Nat → Int) (st h : Int) (W : World) (hL : Lw W N n k z st h) (hk : k < n) :
    Calls Yba.prog 7 #[.pointer (some ⟨N, 0, none⟩)] W fun e w' => e = .returned (.bool true) ∧ (∃ h', Lw w' N n (k + 1) z ((st + 4294967288) % 4294967296) h') ∧ Below N W w' := by
  by_cases h1 : k + 1 < n
  · exact (lw_next N n k z st h W hL h1).mono fun e w' ⟨a, b, c⟩ => ⟨a, ⟨_, b⟩, c⟩
  · exact (lw_last N n k z st h W hL (by omega)).mono fun e w' ⟨a, b, c⟩ => ⟨a, ⟨_, b⟩, c⟩

theorem build_src (a0 : Option Addr) (n cap : Nat) (z : Nat → Int) (low h0 : Int) (w : World) (hn : n ≤ 2000) (hsrc : n = 0 ∨ ∃ sb so, a0 = some ⟨sb, so, none⟩ ∧ ∀ i, i < n → w.cell? ⟨sb, so + i, none⟩ = some (.int .i64 (z i))) :
    Calls Yba.prog 6 #[.slice a0 n cap, .int .u8 low, .int .i64 h0] w fun e w' => e = .returned (.tuple #[.pointer (some ⟨w.heap.size, 0, none⟩), .slice (some ⟨w.heap.size + 1, 0, none⟩) n n, .int .u32 (s0v n low)]) ∧ Lw w' w.heap.size n 0 z (s0v n low) h0 ∧ Below w.heap.size w w' := by
  rcases hsrc with h | ⟨sb, so, rfl, hz⟩
  · exact build_nil a0 n cap z low h0 w hn h
  · exact build_loop sb so n cap z low h0 w hn hz

theorem st_test (n k : Nat) (low : Int) (hk : k < n) (hn : n ≤ 2000) : (sw (n - (k + 1)) low != bits BinOp.or IntKind.u32 (((n : Int) - ((k : Int) + 1)) * 8) (low % 8)) = false := by
  rw [or8 _ _ (by omega) (by omega) (by omega) (by omega)]
  unfold sw
  rw [show (((n - (k + 1) : Nat) : Int)) = (n : Int) - ((k : Int) + 1) by omega]
  simp
theorem st_test0 (low : Int) : (sw 0 low != bits BinOp.or IntKind.u32 0 (low % 8)) = false := by
  have := or8 0 (low % 8) (by omega) (by omega) (by omega) (by omega)
  simp at this
  rw [this]
  unfold sw
  simp
theorem lenc (w : World) (j N : Nat) {s r : Nat} (h : w.heap[N + 2 + 2 * j]? = some (.chan 1 #[.bool true] false s r false)) (ty : TypeId) : (Builtin.len_ #[49] ty #[.chan (some (N + 2 + 2 * j))]).run Yba.prog w = .ok (.int .i64 1) w :=
  run_len_chan 49 ty Yba.underlying49 h
theorem lenc0 (w : World) (j N : Nat) {s r : Nat} (h : w.heap[N + 2 + 2 * j]? = some (.chan 1 #[] false s r false)) (ty : TypeId) : (Builtin.len_ #[49] ty #[.chan (some (N + 2 + 2 * j))]).run Yba.prog w = .ok (.int .i64 0) w :=
  run_len_chan 49 ty Yba.underlying49 h

/-- All are told; the first j have been read. -/
structure Tl (W : World) (N n j : Nat) : Prop where
  ws : ∀ i, i < n → W.cell? ⟨N + 1, i, none⟩ = some (.pointer (some ⟨N + 3 + 2 * i, 0, none⟩))
  nx : ∀ i, i < n → W.cell? ⟨N + 3 + 2 * i, 0, none⟩ = some (.pointer none)
  pv : ∀ i, i < n → W.cell? ⟨N + 3 + 2 * i, 1, none⟩ = some (.pointer none)
  rd : ∀ i, i < n → W.cell? ⟨N + 3 + 2 * i, 2, none⟩ = some (.chan (some (N + 2 + 2 * i)))
  ch : ∀ i, j ≤ i → i < n → W.heap[N + 2 + 2 * i]? = some (.chan 1 #[.bool true] false 1 0 false)
theorem tl_start {W : World} {N n : Nat} {z : Nat → Int} {st h : Int} (hL : Lw W N n n z st h) : Tl W N n 0 := by
  refine ⟨hL.ws, ?_, ?_, hL.rd, ?_⟩
  · intro i hi; rw [hL.nx i hi, if_neg (by omega)]
  · intro i hi; rw [hL.pv i hi, if_neg (by omega)]
  · intro i _ hi; rw [hL.ch i hi, if_pos hi, if_pos hi]
theorem tl_next {W : World} {N n j : Nat} (h : Tl W N n j) (hj : j < n) : Tl (W.setChan (N + 2 + 2 * j) 1 #[] false 1 1 false) N n (j + 1) := by
  have hl : N + 2 + 2 * j < W.heap.size := by
    have := h.ch j (Nat.le_refl _) hj
    rcases Nat.lt_or_ge (N + 2 + 2 * j) W.heap.size with h' | h'
    · exact h'
    · rw [Array.getElem?_eq_none h'] at this; simp at this
  refine ⟨?_, ?_, ?_, ?_, ?_⟩
  · intro i hi; rw [chan_cell _ _ _ _ _ _ _ _ _ _ (by omega)]; exact h.ws i hi
  · intro i hi; rw [chan_cell _ _ _ _ _ _ _ _ _ _ (by omega)]; exact h.nx i hi
  · intro i hi; rw [chan_cell _ _ _ _ _ _ _ _ _ _ (by omega)]; exact h.pv i hi
  · intro i hi; rw [chan_cell _ _ _ _ _ _ _ _ _ _ (by omega)]; exact h.rd i hi
  · intro i hj' hi; rw [chan_heap _ _ _ _ _ _ _ _ _ hl, if_neg (by omega)]; exact h.ch i (by omega) hi
/-- The last loop's frame and world. -/
def Lp (w : World) (N n : Nat) (m : Nat) (a : Act) (W : World) : Prop :=
  ∃ j : Nat, a.defers = [] ∧ a.tmps.size = 126 ∧ a.tmps.getD 7 undef = .int .i64 (n : Int) ∧ a.tmps.getD 9 undef = .slice (some ⟨N + 1, 0, none⟩) n n ∧ a.tmps.getD 15 undef = .int .i64 (j : Int) ∧ m + j = n ∧ Tl W N n j ∧ Below N w W
set_option maxRecDepth 100000 in
theorem lit126 (u : Nat → Value) : ((List.range 126).map u).toArray = #[u 0, u 1, u 2, u 3, u 4, u 5, u 6, u 7, u 8, u 9, u 10, u 11, u 12, u 13, u 14, u 15, u 16, u 17, u 18, u 19, u 20, u 21, u 22, u 23, u 24, u 25, u 26, u 27, u 28, u 29, u 30, u 31, u 32, u 33, u 34, u 35, u 36, u 37, u 38, u 39, u 40, u 41, u 42, u 43, u 44, u 45, u 46, u 47, u 48, u 49, u 50, u 51, u 52, u 53, u 54, u 55, u 56, u 57, u 58, u 59, u 60, u 61, u 62, u 63, u 64, u 65, u 66, u 67, u 68, u 69, u 70, u 71, u 72, u 73, u 74, u 75, u 76, u 77, u 78, u 79, u 80, u 81, u 82, u 83, u 84, u 85, u 86, u 87, u 88, u 89, u 90, u 91, u 92, u 93, u 94, u 95, u 96, u 97, u 98, u 99, u 100, u 101, u 102, u 103, u 104, u 105, u 106, u 107, u 108, u 109, u 110, u 111, u 112, u 113, u 114, u 115, u 116, u 117, u 118, u 119, u 120, u 121, u 122, u 123, u 124, u 125] := rfl
set_option maxRecDepth 100000 in
/-- A frame of 126 slots, written out. -/
theorem open126 (t : Array Value) (h : t.size = 126) : ∃ u : Nat → Value, (∀ i, t.getD i undef = u i) ∧ t = #[u 0, u 1, u 2, u 3, u 4, u 5, u 6, u 7, u 8, u 9, u 10, u 11, u 12, u 13, u 14, u 15, u 16, u 17, u 18, u 19, u 20, u 21, u 22, u 23, u 24, u 25, u 26, u 27, u 28, u 29, u 30, u 31, u 32, u 33, u 34, u 35, u 36, u 37, u 38, u 39, u 40, u 41, u 42, u 43, u 44, u 45, u 46, u 47, u 48, u 49, u 50, u 51, u 52, u 53, u 54, u 55, u 56, u 57, u 58, u 59, u 60, u 61, u 62, u 63, u 64, u 65, u 66, u 67, u 68, u 69, u 70, u 71, u 72, u 73, u 74, u 75, u 76, u 77, u 78, u 79, u 80, u 81, u 82, u 83, u 84, u 85, u 86, u 87, u 88, u 89, u 90, u 91, u 92, u 93, u 94, u 95, u 96, u 97, u 98, u 99, u 100, u 101, u 102, u 103, u 104, u 105, u 106, u 107, u 108, u 109, u 110, u 111, u 112, u 113, u 114, u 115, u 116, u 117, u 118, u 119, u 120, u 121, u 122, u 123, u 124, u 125] := by
  refine ⟨fun i => t.getD i undef, fun _ => rfl, ?_⟩
  rw [← lit126 (fun i => t.getD i undef)]
  apply Array.ext
  · simp [h]
  · intro i h1 h2
    simp [Array.getD, h1]

/-- A part of a code, by its path: 0: the first half of a sequence, a block's or a loop's inside; 1: the second half. -/
def sub : Code → List Nat → Code
  | c, [] => c
  | .seq x _, 0 :: p => sub x p
  | .seq _ y, 1 :: p => sub y p
  | .block _ x, 0 :: p => sub x p
  | .loop x, 0 :: p => sub x p
  | c, _ => c
end Go.Proofs.Ybulkdfim
